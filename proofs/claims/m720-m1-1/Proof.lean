import JvmDerived
import JvmDerived.Pilot.@@N@@Statement
import JvmDerived.Pilot.@@N@@Code
set_option linter.unusedVariables false
set_option linter.unusedSimpArgs false
namespace Jvm.RoadKit
open Sem ClassFile Op Lib Jvm.Stand Jvm.Free Jvm.LawKit
section New
variable {p : Program} {l : Launch} {e : Env} {R : Room} {s : State} {m : MethodId} {args : Array Value} {below : List Frame} {meth : Method} {c : Code} {T : State} {locs : List Loc} {cells slots : Nat}
theorem retI (X : Stand p l e R s m args below meth c T locs cells slots) (hx : p.tables.exec = Jvm.exec) {pc : Nat} {Ls : Array Slot} {z : Int32} {rest : List Value} (hret : meth.sig.returnType = some .int) (hd : decode c.code pc = .ok (.ireturn, 1)) {fs : List Frame}
    (hl : ∀ (f : JFrame) (acts : List Action), f.method = m → f.locked = none → f.entered = [] → (doReturn e (T.setTop f) acts (some (.int z))).1 = T.setFrames fs) : Steps p.tables e below (T.setTop (mkF m pc Ls (.int z :: rest))) (T.setFrames fs) := by
  have hm' : T.vm.method? m = some meth := X.method'
  have hn : narrow .int (.int z) = .int z := rfl
  show Steps p.tables e below (T.setTop { method := m, pc := pc, locals := Ls, stack := _ :: rest, locked := none }) _
  jvm_step X.here [X.here.top, hx, hd, hm', hret, hn]
  first | (intro acts; rw [hl _ acts rfl rfl rfl]) | rw [hl _ _ rfl rfl rfl]
  exact Steps.refl _
end New
end Jvm.RoadKit
namespace Jvm.Pilot.@@N@@
open Jvm Jvm.ClassFile Sem Op Lib Jvm.Free Jvm.Stand Jvm.LawKit Jvm.RoadKit Bundle Jvm.Pilot.@@N@@.Jvm.D
def Wp (p : Program) (e : Env) (below : List Frame) (G : Outcome → State → Prop) (U : State) : Prop := ∃ s₂ o, Steps p.tables e below U s₂ ∧ s₂.status = .running ∧ Ended s₂ below o ∧ G o s₂
theorem Wp.back {p : Program} {e : Env} {below : List Frame} {G : Outcome → State → Prop} {U U' : State} (k : ∀ t, Steps p.tables e below U' t → Steps p.tables e below U t) (h : Wp p e below G U') : Wp p e below G U := by
  obtain ⟨s₂, o, h1, h2⟩ := h
  exact ⟨s₂, o, k _ h1, h2⟩
theorem Wp.done {p : Program} {e : Env} {below : List Frame} {G : Outcome → State → Prop} {U t : State} {o : Outcome} (h1 : Steps p.tables e below U t) (h2 : t.status = .running) (h3 : Ended t below o) (h4 : G o t) : Wp p e below G U := ⟨t, o, h1, h2, h3, h4⟩
/-- what a body leaves that writes nothing -/
def QL (n0 : Nat) (v : Option Value) (h : Heap) (L : List Loc) : Prop := v = some (.int 1) ∧ Fr n0 L
def QP (r : Option Value) (h0 : Heap) (n0 : Nat) (v : Option Value) (h : Heap) (L : List Loc) : Prop := v = r ∧ Fr n0 L ∧ h = h0
theorem own_irrefl (x : Int32) : ¬ x < x := by rw [Int32.lt_iff_toInt_lt]; omega
theorem Sta_keep0 {Z : State} {h h' : Heap} {C n d : String} {v : Value} (F : Sta Z h C n d v) (K : Keep h h' []) : Sta Z h' C n d v := by
  obtain ⟨cf, i, k, f, st, cell, h1, h2, h3, h4, h5, r⟩ := F
  exact ⟨cf, i, k, f, st, cell, h1, h2, h3, h4, K.2.1 _ _ h5 nin0, r⟩
def Q_ds0 (Z : State) (ar : Addr) (ka : ClassId) (h0 : Heap) (n0 : Nat) (v : Option Value) (h : Heap) (L : List Loc) : Prop := ∃ fr0 : Addr, ∃ fk0 : ClassId, v = some (.ref fr0) ∧ Fr n0 L ∧ Keep h0 h [] ∧ h0.size ≤ fr0 ∧ Arv Z h fr0 fk0 .long (0 : Int32) [] (.long (0 : Int64))
theorem n0d1_0 : decode prog_38_method_2_code 0 = .ok (.aload_n 0, 1) := by decide +kernel
theorem n0d1_1 : decode prog_38_method_2_code 1 = .ok (.arraylength, 1) := by decide +kernel
theorem n0d1_2 : decode prog_38_method_2_code 2 = .ok (.newarray .long, 2) := by decide +kernel
theorem n0d1_4 : decode prog_38_method_2_code 4 = .ok (.astore_n 1, 1) := by decide +kernel
theorem n0d1_5 : decode prog_38_method_2_code 5 = .ok (.lconst 1, 1) := by decide +kernel
theorem n0d1_6 : decode prog_38_method_2_code 6 = .ok (.lstore_n 2, 1) := by decide +kernel
theorem n0d1_7 : decode prog_38_method_2_code 7 = .ok (.iconst 0, 1) := by decide +kernel
theorem n0d1_8 : decode prog_38_method_2_code 8 = .ok (.istore 4, 2) := by decide +kernel
theorem n0d1_10 : decode prog_38_method_2_code 10 = .ok (.iload 4, 2) := by decide +kernel
theorem n0d1_12 : decode prog_38_method_2_code 12 = .ok (.aload_n 0, 1) := by decide +kernel
theorem n0d1_13 : decode prog_38_method_2_code 13 = .ok (.arraylength, 1) := by decide +kernel
theorem n0d1_14 : decode prog_38_method_2_code 14 = .ok (.if_icmp .ge 22, 3) := by decide +kernel
theorem n0d1_36 : decode prog_38_method_2_code 36 = .ok (.aload_n 1, 1) := by decide +kernel
theorem n0d1_37 : decode prog_38_method_2_code 37 = .ok (.areturn, 1) := by decide +kernel
theorem n0pn1 : plainName "com/example/mill_river/millriver/index/Index" = true := by first | (simp [plainName, overriddenIn]; done) | decide +kernel
theorem n0ef1 (m : MethodId) (x0 : Addr) : entryFrame m #[(.ref x0)] 5 = mkF m 0 #[.val (.ref x0), .unset, .unset, .unset, .unset] [] := by first | (simp [entryFrame, mkF, argsToLocals, Value.category]; done) | rfl
set_option maxRecDepth 65536 in
set_option maxHeartbeats 40000000 in
theorem rm_ds0 (l : Launch) (Z : State) (a0 : Array Value) (hw : ∀ d ∈ tables_1, d.before a0 Z = true) (ws : List Jvm.Cond) (ar : Addr) (ka : ClassId) (h0 : Heap) (n0 : Nat) (Z0 : n0 ≤ h0.size) (H0 : Arv Z h0 ar ka .int (0 : Int32) [] (.int (0 : Int32))) :
    MetFree l (⟨"com/example/mill_river/millriver/index/Index", "documentStarts", "([I)[J"⟩ : MethodName) (head1 (Jvm.Cond.code (⟨"com/example/mill_river/millriver/index/Index", "documentStarts", "([I)[J"⟩ : MethodName) prog_38_method_2_code 5 (some (.array .long)) :: ws) ({ frames := 0, cells := 1, slots := 0, locals := 0 } : Room)) (fun a U => a = #[(.ref ar)] ∧ Z.Warmed39 U.vm ∧ U.heap = h0) (fun _ _ _ _ _ => True) (fun _ U o U' => ∃ v L, o = .returned v ∧ Q_ds0 Z ar ka h0 n0 v U'.heap L ∧ FrameEnd U o U' L ({ frames := 0, cells := 1, slots := 0, locals := 0 } : Room).cells ({ frames := 0, cells := 1, slots := 0, locals := 0 } : Room).slots) := by
  refine MetFree.of_bodySF (plainFor_of_name n0pn1) hisR ?_
  intro p e s m args below meth c s₁ Bd hml0 hP hK
  obtain ⟨rfl, hZ, hh⟩ := hP
  have hx := Bd.exec
  have hby := Bd.bytes
  have hret := Bd.returns
  have hlk := Bd.notSynchronized
  have hml : c.maxLocals = 5 := hml0
  have hown : s.vm.findClass "com/example/mill_river/millriver/index/Index" = some m.cls := findClass_of_methodNamed Bd.named
  have hnm := (name_of_methodNamed Bd.named Bd.method).1
  have X0 : Stand p l e ({ frames := 0, cells := 1, slots := 0, locals := 0 } : Room) s m #[(.ref ar)] below meth c s₁ [] 0 0 := Stand.of_body Bd
  have e0 : s₁.heap = h0 := by rw [← hh, Bd.state]; rfl
  have N0 := Fr.nil n0
  show Wp p e below (fun o s₂ => ∃ v L, o = .returned v ∧ Q_ds0 Z ar ka h0 n0 v s₂.heap L ∧ FrameEnd s o s₂ L ({ frames := 0, cells := 1, slots := 0, locals := 0 } : Room).cells ({ frames := 0, cells := 1, slots := 0, locals := 0 } : Room).slots) _
  refine Wp.back (U' := (s₁.setTop (mkF m 0 #[.val (.ref ar), .unset, .unset, .unset, .unset] []))) (fun t k => castTop (n0ef1 m ar) k) ?_
  refine Wp.back (U' := (s₁.setTop (mkF m 1 #[.val (.ref ar), .unset, .unset, .unset, .unset] [(.ref ar)]))) (fun t k => XS.aloadN X0.here hx rfl (hb hby n0d1_0) rfl rfl k) ?_
  have vq1 := H0
  obtain ⟨cl1, Ar1, -, qs1, qn1, -, -⟩ := vq1
  refine Wp.back (U' := (s₁.setTop (mkF m 2 #[.val (.ref ar), .unset, .unset, .unset, .unset] [(.int (0 : Int32))]))) (fun t k => X0.arraylength hx (by rw [e0]; exact Ar1.1) (State.isArrayOf_alike hZ.alike Ar1.2.1) (g := (mkF m 1 #[.val (.ref ar), .unset, .unset, .unset, .unset] [(.ref ar)])) rfl rfl (hb hby n0d1_1) t (by rw [len_of qs1 qn1]; exact k)) ?_
  obtain ⟨T2, h2, k2, X2, e2, E2, A2, st2⟩ := newP X0 hx hZ (hw _ (List.mem_of_getElem? (i := 6) rfl)) e0 (g := (mkF m 2 #[.val (.ref ar), .unset, .unset, .unset, .unset] [(.int (0 : Int32))])) rfl (hb hby n0d1_2) rfl (by decide) (cap := 0) (by decide) (by decide) (by decide) (by decide)
  obtain ⟨b2, g2⟩ : ∃ z, z = h0.size := ⟨_, rfl⟩
  rw [← g2] at A2 st2
  have ne_ar_b2 : ar ≠ b2 := Nat.ne_of_lt (Nat.lt_of_lt_of_le H0.lt (Nat.le_of_eq g2.symm))
  have g_b2 : n0 ≤ b2 := Nat.le_trans Z0 (Nat.le_of_eq g2.symm)
  have sz_b2 : h0.size ≤ b2 := Nat.le_trans (Keep.refl h0 []).1 (Nat.le_of_eq g2.symm)
  have f3_0 := Nat.le_trans Z0 E2.1
  have f3_1 := H0.ext E2
  have f3_2 := (Keep.refl h0 []).ext E2
  have V2 : Arv Z h2 b2 k2 .long (0 : Int32) [] (.long (0 : Int64)) := (Arv.new A2 (by decide)).pad (pad_rep [] (.long (0 : Int64)) 0)
  refine Wp.back (U' := (T2.setTop (mkF m 4 #[.val (.ref ar), .unset, .unset, .unset, .unset] [(.ref b2)]))) st2 ?_
  refine Wp.back (U' := (T2.setTop (mkF m 13 #[.val (.ref ar), .val (.ref b2), .val (.long (1 : Int64)), .second, .val (.int (0 : Int32))] [(.ref ar), (.int (0 : Int32))]))) (fun t k => XS.astoreN X2.here hx rfl (hb hby n0d1_4) rfl rfl (l' := #[.val (.ref ar), .val (.ref b2), .unset, .unset, .unset]) rfl (XT.lconstV X2.here hx rfl (1 : Int64) (hb hby n0d1_5) (by decide) (XS.lstoreN X2.here hx rfl (hb hby n0d1_6) rfl (l' := #[.val (.ref ar), .val (.ref b2), .val (.long (1 : Int64)), .second, .unset]) rfl (XT.iconstV X2.here hx rfl (0 : Int32) (hb hby n0d1_7) (by decide) (XS.istore X2.here hx rfl (hb hby n0d1_8) rfl (l' := #[.val (.ref ar), .val (.ref b2), .val (.long (1 : Int64)), .second, .val (.int (0 : Int32))]) rfl (XS.iload X2.here hx rfl (hb hby n0d1_10) rfl (XS.aloadN X2.here hx rfl (hb hby n0d1_12) rfl rfl k))))))) ?_
  have vq4 := f3_1
  obtain ⟨cl4, Ar4, -, qs4, qn4, -, -⟩ := vq4
  refine Wp.back (U' := (T2.setTop (mkF m 14 #[.val (.ref ar), .val (.ref b2), .val (.long (1 : Int64)), .second, .val (.int (0 : Int32))] [(.int (0 : Int32)), (.int (0 : Int32))]))) (fun t k => X2.arraylength hx (by rw [e2]; exact Ar4.1) (State.isArrayOf_alike hZ.alike Ar4.2.1) (g := (mkF m 13 #[.val (.ref ar), .val (.ref b2), .val (.long (1 : Int64)), .second, .val (.int (0 : Int32))] [(.ref ar), (.int (0 : Int32))])) rfl rfl (hb hby n0d1_13) t (by rw [len_of qs4 qn4]; exact k)) ?_
  refine Wp.back (U' := (T2.setTop (mkF m 37 #[.val (.ref ar), .val (.ref b2), .val (.long (1 : Int64)), .second, .val (.int (0 : Int32))] [(.ref b2)]))) (fun t k => XS.icmpYes X2.here hx rfl (pc0 := 14) (pc' := 36) rfl (hb hby n0d1_14) rfl (flt (by decide)).2.1 (by decide) (by decide) (XS.aloadN X2.here hx rfl (hb hby n0d1_36) rfl rfl k)) ?_
  obtain ⟨fs, hr, hrun, hended, hW, hsame⟩ := X2.leave (v := (some (.ref b2))) (fun h => by rw [hret] at h; cases h)
  refine Wp.done (retOut X2 hx hret rfl (Or.inr (Or.inr (Or.inr (Or.inr ⟨rfl, rfl, rfl⟩)))) (hb hby n0d1_37) hr) hrun hended ⟨_, _, rfl, ?_, ⟨_, rfl⟩, hW, hsame.mono (by decide) (by decide)⟩
  show Q_ds0 Z ar ka h0 n0 _ T2.heap _
  rw [e2]
  exact ⟨b2, k2, rfl, N0, f3_2, sz_b2, V2⟩
def Q_ds1 (Z : State) (ar : Addr) (ka : ClassId) (v0 : Int32) (h0 : Heap) (n0 : Nat) (v : Option Value) (h : Heap) (L : List Loc) : Prop := ∃ fr0 : Addr, ∃ fk0 : ClassId, v = some (.ref fr0) ∧ Fr n0 L ∧ Keep h0 h [] ∧ h0.size ≤ fr0 ∧ Arv Z h fr0 fk0 .long (1 : Int32) [(.long (1 : Int64))] (.long (0 : Int64))
theorem n1d1_0 : decode prog_38_method_2_code 0 = .ok (.aload_n 0, 1) := by decide +kernel
theorem n1d1_1 : decode prog_38_method_2_code 1 = .ok (.arraylength, 1) := by decide +kernel
theorem n1d1_2 : decode prog_38_method_2_code 2 = .ok (.newarray .long, 2) := by decide +kernel
theorem n1d1_4 : decode prog_38_method_2_code 4 = .ok (.astore_n 1, 1) := by decide +kernel
theorem n1d1_5 : decode prog_38_method_2_code 5 = .ok (.lconst 1, 1) := by decide +kernel
theorem n1d1_6 : decode prog_38_method_2_code 6 = .ok (.lstore_n 2, 1) := by decide +kernel
theorem n1d1_7 : decode prog_38_method_2_code 7 = .ok (.iconst 0, 1) := by decide +kernel
theorem n1d1_8 : decode prog_38_method_2_code 8 = .ok (.istore 4, 2) := by decide +kernel
theorem n1d1_10 : decode prog_38_method_2_code 10 = .ok (.iload 4, 2) := by decide +kernel
theorem n1d1_12 : decode prog_38_method_2_code 12 = .ok (.aload_n 0, 1) := by decide +kernel
theorem n1d1_13 : decode prog_38_method_2_code 13 = .ok (.arraylength, 1) := by decide +kernel
theorem n1d1_14 : decode prog_38_method_2_code 14 = .ok (.if_icmp .ge 22, 3) := by decide +kernel
theorem n1d1_17 : decode prog_38_method_2_code 17 = .ok (.aload_n 1, 1) := by decide +kernel
theorem n1d1_18 : decode prog_38_method_2_code 18 = .ok (.iload 4, 2) := by decide +kernel
theorem n1d1_20 : decode prog_38_method_2_code 20 = .ok (.lload_n 2, 1) := by decide +kernel
theorem n1d1_21 : decode prog_38_method_2_code 21 = .ok (.lastore, 1) := by decide +kernel
theorem n1d1_22 : decode prog_38_method_2_code 22 = .ok (.lload_n 2, 1) := by decide +kernel
theorem n1d1_23 : decode prog_38_method_2_code 23 = .ok (.aload_n 0, 1) := by decide +kernel
theorem n1d1_24 : decode prog_38_method_2_code 24 = .ok (.iload 4, 2) := by decide +kernel
theorem n1d1_26 : decode prog_38_method_2_code 26 = .ok (.iaload, 1) := by decide +kernel
theorem n1d1_27 : decode prog_38_method_2_code 27 = .ok (.i2l, 1) := by decide +kernel
theorem n1d1_28 : decode prog_38_method_2_code 28 = .ok (.ladd, 1) := by decide +kernel
theorem n1d1_29 : decode prog_38_method_2_code 29 = .ok (.lstore_n 2, 1) := by decide +kernel
theorem n1d1_30 : decode prog_38_method_2_code 30 = .ok (.iinc 4 1, 3) := by decide +kernel
theorem n1d1_33 : decode prog_38_method_2_code 33 = .ok (.goto (-23), 3) := by decide +kernel
theorem n1d1_36 : decode prog_38_method_2_code 36 = .ok (.aload_n 1, 1) := by decide +kernel
theorem n1d1_37 : decode prog_38_method_2_code 37 = .ok (.areturn, 1) := by decide +kernel
theorem n1pn1 : plainName "com/example/mill_river/millriver/index/Index" = true := by first | (simp [plainName, overriddenIn]; done) | decide +kernel
theorem n1ef1 (m : MethodId) (x0 : Addr) : entryFrame m #[(.ref x0)] 5 = mkF m 0 #[.val (.ref x0), .unset, .unset, .unset, .unset] [] := by first | (simp [entryFrame, mkF, argsToLocals, Value.category]; done) | rfl
set_option maxRecDepth 65536 in
set_option maxHeartbeats 40000000 in
theorem rm_ds1 (l : Launch) (Z : State) (a0 : Array Value) (hw : ∀ d ∈ tables_1, d.before a0 Z = true) (ws : List Jvm.Cond) (ar : Addr) (ka : ClassId) (v0 : Int32) (h0 : Heap) (n0 : Nat) (Z0 : n0 ≤ h0.size) (H0 : Arv Z h0 ar ka .int (1 : Int32) [(.int v0)] (.int (0 : Int32))) :
    MetFree l (⟨"com/example/mill_river/millriver/index/Index", "documentStarts", "([I)[J"⟩ : MethodName) (head1 (Jvm.Cond.code (⟨"com/example/mill_river/millriver/index/Index", "documentStarts", "([I)[J"⟩ : MethodName) prog_38_method_2_code 5 (some (.array .long)) :: ws) ({ frames := 0, cells := 1, slots := 1, locals := 0 } : Room)) (fun a U => a = #[(.ref ar)] ∧ Z.Warmed39 U.vm ∧ U.heap = h0) (fun _ _ _ _ _ => True) (fun _ U o U' => ∃ v L, o = .returned v ∧ Q_ds1 Z ar ka v0 h0 n0 v U'.heap L ∧ FrameEnd U o U' L ({ frames := 0, cells := 1, slots := 1, locals := 0 } : Room).cells ({ frames := 0, cells := 1, slots := 1, locals := 0 } : Room).slots) := by
  refine MetFree.of_bodySF (plainFor_of_name n1pn1) hisR ?_
  intro p e s m args below meth c s₁ Bd hml0 hP hK
  obtain ⟨rfl, hZ, hh⟩ := hP
  have hx := Bd.exec
  have hby := Bd.bytes
  have hret := Bd.returns
  have hlk := Bd.notSynchronized
  have hml : c.maxLocals = 5 := hml0
  have hown : s.vm.findClass "com/example/mill_river/millriver/index/Index" = some m.cls := findClass_of_methodNamed Bd.named
  have hnm := (name_of_methodNamed Bd.named Bd.method).1
  have X0 : Stand p l e ({ frames := 0, cells := 1, slots := 1, locals := 0 } : Room) s m #[(.ref ar)] below meth c s₁ [] 0 0 := Stand.of_body Bd
  have e0 : s₁.heap = h0 := by rw [← hh, Bd.state]; rfl
  have N0 := Fr.nil n0
  show Wp p e below (fun o s₂ => ∃ v L, o = .returned v ∧ Q_ds1 Z ar ka v0 h0 n0 v s₂.heap L ∧ FrameEnd s o s₂ L ({ frames := 0, cells := 1, slots := 1, locals := 0 } : Room).cells ({ frames := 0, cells := 1, slots := 1, locals := 0 } : Room).slots) _
  refine Wp.back (U' := (s₁.setTop (mkF m 0 #[.val (.ref ar), .unset, .unset, .unset, .unset] []))) (fun t k => castTop (n1ef1 m ar) k) ?_
  refine Wp.back (U' := (s₁.setTop (mkF m 1 #[.val (.ref ar), .unset, .unset, .unset, .unset] [(.ref ar)]))) (fun t k => XS.aloadN X0.here hx rfl (hb hby n1d1_0) rfl rfl k) ?_
  have vq1 := H0
  obtain ⟨cl1, Ar1, -, qs1, qn1, -, -⟩ := vq1
  refine Wp.back (U' := (s₁.setTop (mkF m 2 #[.val (.ref ar), .unset, .unset, .unset, .unset] [(.int (1 : Int32))]))) (fun t k => X0.arraylength hx (by rw [e0]; exact Ar1.1) (State.isArrayOf_alike hZ.alike Ar1.2.1) (g := (mkF m 1 #[.val (.ref ar), .unset, .unset, .unset, .unset] [(.ref ar)])) rfl rfl (hb hby n1d1_1) t (by rw [len_of qs1 qn1]; exact k)) ?_
  obtain ⟨T2, h2, k2, X2, e2, E2, A2, st2⟩ := newP X0 hx hZ (hw _ (List.mem_of_getElem? (i := 6) rfl)) e0 (g := (mkF m 2 #[.val (.ref ar), .unset, .unset, .unset, .unset] [(.int (1 : Int32))])) rfl (hb hby n1d1_2) rfl (by decide) (cap := 1) (by decide) (by decide) (by decide) (by decide)
  obtain ⟨b2, g2⟩ : ∃ z, z = h0.size := ⟨_, rfl⟩
  rw [← g2] at A2 st2
  have ne_ar_b2 : ar ≠ b2 := Nat.ne_of_lt (Nat.lt_of_lt_of_le H0.lt (Nat.le_of_eq g2.symm))
  have g_b2 : n0 ≤ b2 := Nat.le_trans Z0 (Nat.le_of_eq g2.symm)
  have sz_b2 : h0.size ≤ b2 := Nat.le_trans (Keep.refl h0 []).1 (Nat.le_of_eq g2.symm)
  have f3_0 := Nat.le_trans Z0 E2.1
  have f3_1 := H0.ext E2
  have f3_2 := (Keep.refl h0 []).ext E2
  have V2 : Arv Z h2 b2 k2 .long (1 : Int32) [(.long (0 : Int64))] (.long (0 : Int64)) := (Arv.new A2 (by decide)).pad (pad_rep [] (.long (0 : Int64)) 1)
  refine Wp.back (U' := (T2.setTop (mkF m 4 #[.val (.ref ar), .unset, .unset, .unset, .unset] [(.ref b2)]))) st2 ?_
  refine Wp.back (U' := (T2.setTop (mkF m 13 #[.val (.ref ar), .val (.ref b2), .val (.long (1 : Int64)), .second, .val (.int (0 : Int32))] [(.ref ar), (.int (0 : Int32))]))) (fun t k => XS.astoreN X2.here hx rfl (hb hby n1d1_4) rfl rfl (l' := #[.val (.ref ar), .val (.ref b2), .unset, .unset, .unset]) rfl (XT.lconstV X2.here hx rfl (1 : Int64) (hb hby n1d1_5) (by decide) (XS.lstoreN X2.here hx rfl (hb hby n1d1_6) rfl (l' := #[.val (.ref ar), .val (.ref b2), .val (.long (1 : Int64)), .second, .unset]) rfl (XT.iconstV X2.here hx rfl (0 : Int32) (hb hby n1d1_7) (by decide) (XS.istore X2.here hx rfl (hb hby n1d1_8) rfl (l' := #[.val (.ref ar), .val (.ref b2), .val (.long (1 : Int64)), .second, .val (.int (0 : Int32))]) rfl (XS.iload X2.here hx rfl (hb hby n1d1_10) rfl (XS.aloadN X2.here hx rfl (hb hby n1d1_12) rfl rfl k))))))) ?_
  have vq4 := f3_1
  obtain ⟨cl4, Ar4, -, qs4, qn4, -, -⟩ := vq4
  refine Wp.back (U' := (T2.setTop (mkF m 14 #[.val (.ref ar), .val (.ref b2), .val (.long (1 : Int64)), .second, .val (.int (0 : Int32))] [(.int (1 : Int32)), (.int (0 : Int32))]))) (fun t k => X2.arraylength hx (by rw [e2]; exact Ar4.1) (State.isArrayOf_alike hZ.alike Ar4.2.1) (g := (mkF m 13 #[.val (.ref ar), .val (.ref b2), .val (.long (1 : Int64)), .second, .val (.int (0 : Int32))] [(.ref ar), (.int (0 : Int32))])) rfl rfl (hb hby n1d1_13) t (by rw [len_of qs4 qn4]; exact k)) ?_
  refine Wp.back (U' := (T2.setTop (mkF m 21 #[.val (.ref ar), .val (.ref b2), .val (.long (1 : Int64)), .second, .val (.int (0 : Int32))] [(.long (1 : Int64)), (.int (0 : Int32)), (.ref b2)]))) (fun t k => XS.icmpNo X2.here hx rfl (hb hby n1d1_14) rfl (tlt (by decide)).2.1 (XS.aloadN X2.here hx rfl (hb hby n1d1_17) rfl rfl (XS.iload X2.here hx rfl (hb hby n1d1_18) rfl (XS.lloadN X2.here hx rfl (hb hby n1d1_20) rfl k)))) ?_
  have vq5 := V2
  obtain ⟨cl5, Ar5, qa5, qs5, qn5, qh5, qg5⟩ := vq5
  have hin5 : ¬ ((0 : Int32) < 0 ∨ cl5.slots.size ≤ ((0 : Int32)).toNatClampNeg) := inb_of qs5 ⟨by decide, by decide⟩
  obtain ⟨T5, h5, X5, e5, W5, st5⟩ := stJ X2 hx hZ e2 Ar5 (j := (0 : Int32)) hin5 (g := (mkF m 21 #[.val (.ref ar), .val (.ref b2), .val (.long (1 : Int64)), .second, .val (.int (0 : Int32))] [(.long (1 : Int64)), (.int (0 : Int32)), (.ref b2)])) rfl rfl (hb hby n1d1_21)
  have V5 : Arv Z h5 b2 k2 .long (1 : Int32) [(.long (1 : Int64))] (.long (0 : Int64)) := Arv.set Ar5 qa5 qs5 qn5 qh5 qg5 rfl W5 0 rfl (Nat.le_of_ble_eq_true rfl)
  have f6_0 := Nat.le_trans f3_0 (Keep.of_wr W5).1
  have f6_1 := f3_1.other W5 ne_ar_b2
  have f6_2 := f3_2.wr W5 (Or.inr sz_b2)
  have N5 := Fr.snoc X5 N0 g_b2
  refine Wp.back (U' := (T5.setTop (mkF m 22 #[.val (.ref ar), .val (.ref b2), .val (.long (1 : Int64)), .second, .val (.int (0 : Int32))] []))) st5 ?_
  refine Wp.back (U' := (T5.setTop (mkF m 26 #[.val (.ref ar), .val (.ref b2), .val (.long (1 : Int64)), .second, .val (.int (0 : Int32))] [(.int (0 : Int32)), (.ref ar), (.long (1 : Int64))]))) (fun t k => XS.lloadN X5.here hx rfl (hb hby n1d1_22) rfl (XS.aloadN X5.here hx rfl (hb hby n1d1_23) rfl rfl (XS.iload X5.here hx rfl (hb hby n1d1_24) rfl k))) ?_
  have vq7 := f6_1
  obtain ⟨cl7, Ar7, qa7, qs7, qn7, qh7, qg7⟩ := vq7
  have hin7 : ¬ ((0 : Int32) < 0 ∨ cl7.slots.size ≤ ((0 : Int32)).toNatClampNeg) := inb_of qs7 ⟨by decide, by decide⟩
  have hat7 : cl7.slots[((0 : Int32)).toNatClampNeg]? = some (.int v0) := Has.at qh7 hin7 rfl
  refine Wp.back (U' := (T5.setTop (mkF m 27 #[.val (.ref ar), .val (.ref b2), .val (.long (1 : Int64)), .second, .val (.int (0 : Int32))] [(.int v0), (.long (1 : Int64))]))) (fun t k => X5.iaload hx (j := (0 : Int32)) (v := (.int v0)) (by rw [e5]; exact Ar7.1) (State.isArrayOf_alike hZ.alike Ar7.2.1) Ar7.2.2 hin7 hat7 (g := (mkF m 26 #[.val (.ref ar), .val (.ref b2), .val (.long (1 : Int64)), .second, .val (.int (0 : Int32))] [(.int (0 : Int32)), (.ref ar), (.long (1 : Int64))])) rfl rfl (hb hby n1d1_26) t k) ?_
  refine Wp.back (U' := (T5.setTop (mkF m 13 #[.val (.ref ar), .val (.ref b2), .val (.long ((1 : Int64) + (v0).toInt64)), .second, .val (.int (1 : Int32))] [(.ref ar), (.int (1 : Int32))]))) (fun t k => XS.i2l X5.here hx rfl (hb hby n1d1_27) rfl (XS.ladd X5.here hx rfl (hb hby n1d1_28) rfl (XS.lstoreN X5.here hx rfl (hb hby n1d1_29) rfl (l' := #[.val (.ref ar), .val (.ref b2), .val (.long ((1 : Int64) + (v0).toInt64)), .second, .val (.int (0 : Int32))]) rfl (XT.iincV X5.here hx rfl (1 : Int32) (hb hby n1d1_30) (by decide) rfl (l' := #[.val (.ref ar), .val (.ref b2), .val (.long ((1 : Int64) + (v0).toInt64)), .second, .val (.int (1 : Int32))]) rfl (XS.goto X5.here hx rfl (pc0 := 33) (pc' := 10) rfl (hb hby n1d1_33) (by decide) (by decide) (XS.iload X5.here hx rfl (hb hby n1d1_10) rfl (XS.aloadN X5.here hx rfl (hb hby n1d1_12) rfl rfl k))))))) ?_
  have vq8 := f6_1
  obtain ⟨cl8, Ar8, -, qs8, qn8, -, -⟩ := vq8
  refine Wp.back (U' := (T5.setTop (mkF m 14 #[.val (.ref ar), .val (.ref b2), .val (.long ((1 : Int64) + (v0).toInt64)), .second, .val (.int (1 : Int32))] [(.int (1 : Int32)), (.int (1 : Int32))]))) (fun t k => X5.arraylength hx (by rw [e5]; exact Ar8.1) (State.isArrayOf_alike hZ.alike Ar8.2.1) (g := (mkF m 13 #[.val (.ref ar), .val (.ref b2), .val (.long ((1 : Int64) + (v0).toInt64)), .second, .val (.int (1 : Int32))] [(.ref ar), (.int (1 : Int32))])) rfl rfl (hb hby n1d1_13) t (by rw [len_of qs8 qn8]; exact k)) ?_
  refine Wp.back (U' := (T5.setTop (mkF m 37 #[.val (.ref ar), .val (.ref b2), .val (.long ((1 : Int64) + (v0).toInt64)), .second, .val (.int (1 : Int32))] [(.ref b2)]))) (fun t k => XS.icmpYes X5.here hx rfl (pc0 := 14) (pc' := 36) rfl (hb hby n1d1_14) rfl (flt (by decide)).2.1 (by decide) (by decide) (XS.aloadN X5.here hx rfl (hb hby n1d1_36) rfl rfl k)) ?_
  obtain ⟨fs, hr, hrun, hended, hW, hsame⟩ := X5.leave (v := (some (.ref b2))) (fun h => by rw [hret] at h; cases h)
  refine Wp.done (retOut X5 hx hret rfl (Or.inr (Or.inr (Or.inr (Or.inr ⟨rfl, rfl, rfl⟩)))) (hb hby n1d1_37) hr) hrun hended ⟨_, _, rfl, ?_, ⟨_, rfl⟩, hW, hsame.mono (by decide) (by decide)⟩
  show Q_ds1 Z ar ka v0 h0 n0 _ T5.heap _
  rw [e5]
  exact ⟨b2, k2, rfl, N5, f6_2, sz_b2, V5⟩
def Q_ds2 (Z : State) (ar : Addr) (ka : ClassId) (v0 : Int32) (v1 : Int32) (h0 : Heap) (n0 : Nat) (v : Option Value) (h : Heap) (L : List Loc) : Prop := ∃ fr0 : Addr, ∃ fk0 : ClassId, v = some (.ref fr0) ∧ Fr n0 L ∧ Keep h0 h [] ∧ h0.size ≤ fr0 ∧ Arv Z h fr0 fk0 .long (2 : Int32) [(.long (1 : Int64)), (.long ((1 : Int64) + (v0).toInt64))] (.long (0 : Int64))
theorem n2d1_0 : decode prog_38_method_2_code 0 = .ok (.aload_n 0, 1) := by decide +kernel
theorem n2d1_1 : decode prog_38_method_2_code 1 = .ok (.arraylength, 1) := by decide +kernel
theorem n2d1_2 : decode prog_38_method_2_code 2 = .ok (.newarray .long, 2) := by decide +kernel
theorem n2d1_4 : decode prog_38_method_2_code 4 = .ok (.astore_n 1, 1) := by decide +kernel
theorem n2d1_5 : decode prog_38_method_2_code 5 = .ok (.lconst 1, 1) := by decide +kernel
theorem n2d1_6 : decode prog_38_method_2_code 6 = .ok (.lstore_n 2, 1) := by decide +kernel
theorem n2d1_7 : decode prog_38_method_2_code 7 = .ok (.iconst 0, 1) := by decide +kernel
theorem n2d1_8 : decode prog_38_method_2_code 8 = .ok (.istore 4, 2) := by decide +kernel
theorem n2d1_10 : decode prog_38_method_2_code 10 = .ok (.iload 4, 2) := by decide +kernel
theorem n2d1_12 : decode prog_38_method_2_code 12 = .ok (.aload_n 0, 1) := by decide +kernel
theorem n2d1_13 : decode prog_38_method_2_code 13 = .ok (.arraylength, 1) := by decide +kernel
theorem n2d1_14 : decode prog_38_method_2_code 14 = .ok (.if_icmp .ge 22, 3) := by decide +kernel
theorem n2d1_17 : decode prog_38_method_2_code 17 = .ok (.aload_n 1, 1) := by decide +kernel
theorem n2d1_18 : decode prog_38_method_2_code 18 = .ok (.iload 4, 2) := by decide +kernel
theorem n2d1_20 : decode prog_38_method_2_code 20 = .ok (.lload_n 2, 1) := by decide +kernel
theorem n2d1_21 : decode prog_38_method_2_code 21 = .ok (.lastore, 1) := by decide +kernel
theorem n2d1_22 : decode prog_38_method_2_code 22 = .ok (.lload_n 2, 1) := by decide +kernel
theorem n2d1_23 : decode prog_38_method_2_code 23 = .ok (.aload_n 0, 1) := by decide +kernel
theorem n2d1_24 : decode prog_38_method_2_code 24 = .ok (.iload 4, 2) := by decide +kernel
theorem n2d1_26 : decode prog_38_method_2_code 26 = .ok (.iaload, 1) := by decide +kernel
theorem n2d1_27 : decode prog_38_method_2_code 27 = .ok (.i2l, 1) := by decide +kernel
theorem n2d1_28 : decode prog_38_method_2_code 28 = .ok (.ladd, 1) := by decide +kernel
theorem n2d1_29 : decode prog_38_method_2_code 29 = .ok (.lstore_n 2, 1) := by decide +kernel
theorem n2d1_30 : decode prog_38_method_2_code 30 = .ok (.iinc 4 1, 3) := by decide +kernel
theorem n2d1_33 : decode prog_38_method_2_code 33 = .ok (.goto (-23), 3) := by decide +kernel
theorem n2d1_36 : decode prog_38_method_2_code 36 = .ok (.aload_n 1, 1) := by decide +kernel
theorem n2d1_37 : decode prog_38_method_2_code 37 = .ok (.areturn, 1) := by decide +kernel
theorem n2pn1 : plainName "com/example/mill_river/millriver/index/Index" = true := by first | (simp [plainName, overriddenIn]; done) | decide +kernel
theorem n2ef1 (m : MethodId) (x0 : Addr) : entryFrame m #[(.ref x0)] 5 = mkF m 0 #[.val (.ref x0), .unset, .unset, .unset, .unset] [] := by first | (simp [entryFrame, mkF, argsToLocals, Value.category]; done) | rfl
set_option maxRecDepth 65536 in
set_option maxHeartbeats 40000000 in
theorem rm_ds2 (l : Launch) (Z : State) (a0 : Array Value) (hw : ∀ d ∈ tables_1, d.before a0 Z = true) (ws : List Jvm.Cond) (ar : Addr) (ka : ClassId) (v0 : Int32) (v1 : Int32) (h0 : Heap) (n0 : Nat) (Z0 : n0 ≤ h0.size) (H0 : Arv Z h0 ar ka .int (2 : Int32) [(.int v0), (.int v1)] (.int (0 : Int32))) :
    MetFree l (⟨"com/example/mill_river/millriver/index/Index", "documentStarts", "([I)[J"⟩ : MethodName) (head1 (Jvm.Cond.code (⟨"com/example/mill_river/millriver/index/Index", "documentStarts", "([I)[J"⟩ : MethodName) prog_38_method_2_code 5 (some (.array .long)) :: ws) ({ frames := 0, cells := 1, slots := 2, locals := 0 } : Room)) (fun a U => a = #[(.ref ar)] ∧ Z.Warmed39 U.vm ∧ U.heap = h0) (fun _ _ _ _ _ => True) (fun _ U o U' => ∃ v L, o = .returned v ∧ Q_ds2 Z ar ka v0 v1 h0 n0 v U'.heap L ∧ FrameEnd U o U' L ({ frames := 0, cells := 1, slots := 2, locals := 0 } : Room).cells ({ frames := 0, cells := 1, slots := 2, locals := 0 } : Room).slots) := by
  refine MetFree.of_bodySF (plainFor_of_name n2pn1) hisR ?_
  intro p e s m args below meth c s₁ Bd hml0 hP hK
  obtain ⟨rfl, hZ, hh⟩ := hP
  have hx := Bd.exec
  have hby := Bd.bytes
  have hret := Bd.returns
  have hlk := Bd.notSynchronized
  have hml : c.maxLocals = 5 := hml0
  have hown : s.vm.findClass "com/example/mill_river/millriver/index/Index" = some m.cls := findClass_of_methodNamed Bd.named
  have hnm := (name_of_methodNamed Bd.named Bd.method).1
  have X0 : Stand p l e ({ frames := 0, cells := 1, slots := 2, locals := 0 } : Room) s m #[(.ref ar)] below meth c s₁ [] 0 0 := Stand.of_body Bd
  have e0 : s₁.heap = h0 := by rw [← hh, Bd.state]; rfl
  have N0 := Fr.nil n0
  show Wp p e below (fun o s₂ => ∃ v L, o = .returned v ∧ Q_ds2 Z ar ka v0 v1 h0 n0 v s₂.heap L ∧ FrameEnd s o s₂ L ({ frames := 0, cells := 1, slots := 2, locals := 0 } : Room).cells ({ frames := 0, cells := 1, slots := 2, locals := 0 } : Room).slots) _
  refine Wp.back (U' := (s₁.setTop (mkF m 0 #[.val (.ref ar), .unset, .unset, .unset, .unset] []))) (fun t k => castTop (n2ef1 m ar) k) ?_
  refine Wp.back (U' := (s₁.setTop (mkF m 1 #[.val (.ref ar), .unset, .unset, .unset, .unset] [(.ref ar)]))) (fun t k => XS.aloadN X0.here hx rfl (hb hby n2d1_0) rfl rfl k) ?_
  have vq1 := H0
  obtain ⟨cl1, Ar1, -, qs1, qn1, -, -⟩ := vq1
  refine Wp.back (U' := (s₁.setTop (mkF m 2 #[.val (.ref ar), .unset, .unset, .unset, .unset] [(.int (2 : Int32))]))) (fun t k => X0.arraylength hx (by rw [e0]; exact Ar1.1) (State.isArrayOf_alike hZ.alike Ar1.2.1) (g := (mkF m 1 #[.val (.ref ar), .unset, .unset, .unset, .unset] [(.ref ar)])) rfl rfl (hb hby n2d1_1) t (by rw [len_of qs1 qn1]; exact k)) ?_
  obtain ⟨T2, h2, k2, X2, e2, E2, A2, st2⟩ := newP X0 hx hZ (hw _ (List.mem_of_getElem? (i := 6) rfl)) e0 (g := (mkF m 2 #[.val (.ref ar), .unset, .unset, .unset, .unset] [(.int (2 : Int32))])) rfl (hb hby n2d1_2) rfl (by decide) (cap := 2) (by decide) (by decide) (by decide) (by decide)
  obtain ⟨b2, g2⟩ : ∃ z, z = h0.size := ⟨_, rfl⟩
  rw [← g2] at A2 st2
  have ne_ar_b2 : ar ≠ b2 := Nat.ne_of_lt (Nat.lt_of_lt_of_le H0.lt (Nat.le_of_eq g2.symm))
  have g_b2 : n0 ≤ b2 := Nat.le_trans Z0 (Nat.le_of_eq g2.symm)
  have sz_b2 : h0.size ≤ b2 := Nat.le_trans (Keep.refl h0 []).1 (Nat.le_of_eq g2.symm)
  have f3_0 := Nat.le_trans Z0 E2.1
  have f3_1 := H0.ext E2
  have f3_2 := (Keep.refl h0 []).ext E2
  have V2 : Arv Z h2 b2 k2 .long (2 : Int32) [(.long (0 : Int64)), (.long (0 : Int64))] (.long (0 : Int64)) := (Arv.new A2 (by decide)).pad (pad_rep [] (.long (0 : Int64)) 2)
  refine Wp.back (U' := (T2.setTop (mkF m 4 #[.val (.ref ar), .unset, .unset, .unset, .unset] [(.ref b2)]))) st2 ?_
  refine Wp.back (U' := (T2.setTop (mkF m 13 #[.val (.ref ar), .val (.ref b2), .val (.long (1 : Int64)), .second, .val (.int (0 : Int32))] [(.ref ar), (.int (0 : Int32))]))) (fun t k => XS.astoreN X2.here hx rfl (hb hby n2d1_4) rfl rfl (l' := #[.val (.ref ar), .val (.ref b2), .unset, .unset, .unset]) rfl (XT.lconstV X2.here hx rfl (1 : Int64) (hb hby n2d1_5) (by decide) (XS.lstoreN X2.here hx rfl (hb hby n2d1_6) rfl (l' := #[.val (.ref ar), .val (.ref b2), .val (.long (1 : Int64)), .second, .unset]) rfl (XT.iconstV X2.here hx rfl (0 : Int32) (hb hby n2d1_7) (by decide) (XS.istore X2.here hx rfl (hb hby n2d1_8) rfl (l' := #[.val (.ref ar), .val (.ref b2), .val (.long (1 : Int64)), .second, .val (.int (0 : Int32))]) rfl (XS.iload X2.here hx rfl (hb hby n2d1_10) rfl (XS.aloadN X2.here hx rfl (hb hby n2d1_12) rfl rfl k))))))) ?_
  have vq4 := f3_1
  obtain ⟨cl4, Ar4, -, qs4, qn4, -, -⟩ := vq4
  refine Wp.back (U' := (T2.setTop (mkF m 14 #[.val (.ref ar), .val (.ref b2), .val (.long (1 : Int64)), .second, .val (.int (0 : Int32))] [(.int (2 : Int32)), (.int (0 : Int32))]))) (fun t k => X2.arraylength hx (by rw [e2]; exact Ar4.1) (State.isArrayOf_alike hZ.alike Ar4.2.1) (g := (mkF m 13 #[.val (.ref ar), .val (.ref b2), .val (.long (1 : Int64)), .second, .val (.int (0 : Int32))] [(.ref ar), (.int (0 : Int32))])) rfl rfl (hb hby n2d1_13) t (by rw [len_of qs4 qn4]; exact k)) ?_
  refine Wp.back (U' := (T2.setTop (mkF m 21 #[.val (.ref ar), .val (.ref b2), .val (.long (1 : Int64)), .second, .val (.int (0 : Int32))] [(.long (1 : Int64)), (.int (0 : Int32)), (.ref b2)]))) (fun t k => XS.icmpNo X2.here hx rfl (hb hby n2d1_14) rfl (tlt (by decide)).2.1 (XS.aloadN X2.here hx rfl (hb hby n2d1_17) rfl rfl (XS.iload X2.here hx rfl (hb hby n2d1_18) rfl (XS.lloadN X2.here hx rfl (hb hby n2d1_20) rfl k)))) ?_
  have vq5 := V2
  obtain ⟨cl5, Ar5, qa5, qs5, qn5, qh5, qg5⟩ := vq5
  have hin5 : ¬ ((0 : Int32) < 0 ∨ cl5.slots.size ≤ ((0 : Int32)).toNatClampNeg) := inb_of qs5 ⟨by decide, by decide⟩
  obtain ⟨T5, h5, X5, e5, W5, st5⟩ := stJ X2 hx hZ e2 Ar5 (j := (0 : Int32)) hin5 (g := (mkF m 21 #[.val (.ref ar), .val (.ref b2), .val (.long (1 : Int64)), .second, .val (.int (0 : Int32))] [(.long (1 : Int64)), (.int (0 : Int32)), (.ref b2)])) rfl rfl (hb hby n2d1_21)
  have V5 : Arv Z h5 b2 k2 .long (2 : Int32) [(.long (1 : Int64)), (.long (0 : Int64))] (.long (0 : Int64)) := Arv.set Ar5 qa5 qs5 qn5 qh5 qg5 rfl W5 0 rfl (Nat.le_of_ble_eq_true rfl)
  have f6_0 := Nat.le_trans f3_0 (Keep.of_wr W5).1
  have f6_1 := f3_1.other W5 ne_ar_b2
  have f6_2 := f3_2.wr W5 (Or.inr sz_b2)
  have N5 := Fr.snoc X5 N0 g_b2
  refine Wp.back (U' := (T5.setTop (mkF m 22 #[.val (.ref ar), .val (.ref b2), .val (.long (1 : Int64)), .second, .val (.int (0 : Int32))] []))) st5 ?_
  refine Wp.back (U' := (T5.setTop (mkF m 26 #[.val (.ref ar), .val (.ref b2), .val (.long (1 : Int64)), .second, .val (.int (0 : Int32))] [(.int (0 : Int32)), (.ref ar), (.long (1 : Int64))]))) (fun t k => XS.lloadN X5.here hx rfl (hb hby n2d1_22) rfl (XS.aloadN X5.here hx rfl (hb hby n2d1_23) rfl rfl (XS.iload X5.here hx rfl (hb hby n2d1_24) rfl k))) ?_
  have vq7 := f6_1
  obtain ⟨cl7, Ar7, qa7, qs7, qn7, qh7, qg7⟩ := vq7
  have hin7 : ¬ ((0 : Int32) < 0 ∨ cl7.slots.size ≤ ((0 : Int32)).toNatClampNeg) := inb_of qs7 ⟨by decide, by decide⟩
  have hat7 : cl7.slots[((0 : Int32)).toNatClampNeg]? = some (.int v0) := Has.at qh7 hin7 rfl
  refine Wp.back (U' := (T5.setTop (mkF m 27 #[.val (.ref ar), .val (.ref b2), .val (.long (1 : Int64)), .second, .val (.int (0 : Int32))] [(.int v0), (.long (1 : Int64))]))) (fun t k => X5.iaload hx (j := (0 : Int32)) (v := (.int v0)) (by rw [e5]; exact Ar7.1) (State.isArrayOf_alike hZ.alike Ar7.2.1) Ar7.2.2 hin7 hat7 (g := (mkF m 26 #[.val (.ref ar), .val (.ref b2), .val (.long (1 : Int64)), .second, .val (.int (0 : Int32))] [(.int (0 : Int32)), (.ref ar), (.long (1 : Int64))])) rfl rfl (hb hby n2d1_26) t k) ?_
  refine Wp.back (U' := (T5.setTop (mkF m 13 #[.val (.ref ar), .val (.ref b2), .val (.long ((1 : Int64) + (v0).toInt64)), .second, .val (.int (1 : Int32))] [(.ref ar), (.int (1 : Int32))]))) (fun t k => XS.i2l X5.here hx rfl (hb hby n2d1_27) rfl (XS.ladd X5.here hx rfl (hb hby n2d1_28) rfl (XS.lstoreN X5.here hx rfl (hb hby n2d1_29) rfl (l' := #[.val (.ref ar), .val (.ref b2), .val (.long ((1 : Int64) + (v0).toInt64)), .second, .val (.int (0 : Int32))]) rfl (XT.iincV X5.here hx rfl (1 : Int32) (hb hby n2d1_30) (by decide) rfl (l' := #[.val (.ref ar), .val (.ref b2), .val (.long ((1 : Int64) + (v0).toInt64)), .second, .val (.int (1 : Int32))]) rfl (XS.goto X5.here hx rfl (pc0 := 33) (pc' := 10) rfl (hb hby n2d1_33) (by decide) (by decide) (XS.iload X5.here hx rfl (hb hby n2d1_10) rfl (XS.aloadN X5.here hx rfl (hb hby n2d1_12) rfl rfl k))))))) ?_
  have vq8 := f6_1
  obtain ⟨cl8, Ar8, -, qs8, qn8, -, -⟩ := vq8
  refine Wp.back (U' := (T5.setTop (mkF m 14 #[.val (.ref ar), .val (.ref b2), .val (.long ((1 : Int64) + (v0).toInt64)), .second, .val (.int (1 : Int32))] [(.int (2 : Int32)), (.int (1 : Int32))]))) (fun t k => X5.arraylength hx (by rw [e5]; exact Ar8.1) (State.isArrayOf_alike hZ.alike Ar8.2.1) (g := (mkF m 13 #[.val (.ref ar), .val (.ref b2), .val (.long ((1 : Int64) + (v0).toInt64)), .second, .val (.int (1 : Int32))] [(.ref ar), (.int (1 : Int32))])) rfl rfl (hb hby n2d1_13) t (by rw [len_of qs8 qn8]; exact k)) ?_
  refine Wp.back (U' := (T5.setTop (mkF m 21 #[.val (.ref ar), .val (.ref b2), .val (.long ((1 : Int64) + (v0).toInt64)), .second, .val (.int (1 : Int32))] [(.long ((1 : Int64) + (v0).toInt64)), (.int (1 : Int32)), (.ref b2)]))) (fun t k => XS.icmpNo X5.here hx rfl (hb hby n2d1_14) rfl (tlt (by decide)).2.1 (XS.aloadN X5.here hx rfl (hb hby n2d1_17) rfl rfl (XS.iload X5.here hx rfl (hb hby n2d1_18) rfl (XS.lloadN X5.here hx rfl (hb hby n2d1_20) rfl k)))) ?_
  have vq9 := V5
  obtain ⟨cl9, Ar9, qa9, qs9, qn9, qh9, qg9⟩ := vq9
  have hin9 : ¬ ((1 : Int32) < 0 ∨ cl9.slots.size ≤ ((1 : Int32)).toNatClampNeg) := inb_of qs9 ⟨by decide, by decide⟩
  obtain ⟨T9, h9, X9, e9, W9, st9⟩ := stJ X5 hx hZ e5 Ar9 (j := (1 : Int32)) hin9 (g := (mkF m 21 #[.val (.ref ar), .val (.ref b2), .val (.long ((1 : Int64) + (v0).toInt64)), .second, .val (.int (1 : Int32))] [(.long ((1 : Int64) + (v0).toInt64)), (.int (1 : Int32)), (.ref b2)])) rfl rfl (hb hby n2d1_21)
  have V9 : Arv Z h9 b2 k2 .long (2 : Int32) [(.long (1 : Int64)), (.long ((1 : Int64) + (v0).toInt64))] (.long (0 : Int64)) := Arv.set Ar9 qa9 qs9 qn9 qh9 qg9 rfl W9 1 rfl (Nat.le_of_ble_eq_true rfl)
  have f10_0 := Nat.le_trans f6_0 (Keep.of_wr W9).1
  have f10_1 := f6_1.other W9 ne_ar_b2
  have f10_2 := f6_2.wr W9 (Or.inr sz_b2)
  have N9 := Fr.snoc X9 N5 g_b2
  refine Wp.back (U' := (T9.setTop (mkF m 22 #[.val (.ref ar), .val (.ref b2), .val (.long ((1 : Int64) + (v0).toInt64)), .second, .val (.int (1 : Int32))] []))) st9 ?_
  refine Wp.back (U' := (T9.setTop (mkF m 26 #[.val (.ref ar), .val (.ref b2), .val (.long ((1 : Int64) + (v0).toInt64)), .second, .val (.int (1 : Int32))] [(.int (1 : Int32)), (.ref ar), (.long ((1 : Int64) + (v0).toInt64))]))) (fun t k => XS.lloadN X9.here hx rfl (hb hby n2d1_22) rfl (XS.aloadN X9.here hx rfl (hb hby n2d1_23) rfl rfl (XS.iload X9.here hx rfl (hb hby n2d1_24) rfl k))) ?_
  have vq11 := f10_1
  obtain ⟨cl11, Ar11, qa11, qs11, qn11, qh11, qg11⟩ := vq11
  have hin11 : ¬ ((1 : Int32) < 0 ∨ cl11.slots.size ≤ ((1 : Int32)).toNatClampNeg) := inb_of qs11 ⟨by decide, by decide⟩
  have hat11 : cl11.slots[((1 : Int32)).toNatClampNeg]? = some (.int v1) := Has.at qh11 hin11 rfl
  refine Wp.back (U' := (T9.setTop (mkF m 27 #[.val (.ref ar), .val (.ref b2), .val (.long ((1 : Int64) + (v0).toInt64)), .second, .val (.int (1 : Int32))] [(.int v1), (.long ((1 : Int64) + (v0).toInt64))]))) (fun t k => X9.iaload hx (j := (1 : Int32)) (v := (.int v1)) (by rw [e9]; exact Ar11.1) (State.isArrayOf_alike hZ.alike Ar11.2.1) Ar11.2.2 hin11 hat11 (g := (mkF m 26 #[.val (.ref ar), .val (.ref b2), .val (.long ((1 : Int64) + (v0).toInt64)), .second, .val (.int (1 : Int32))] [(.int (1 : Int32)), (.ref ar), (.long ((1 : Int64) + (v0).toInt64))])) rfl rfl (hb hby n2d1_26) t k) ?_
  refine Wp.back (U' := (T9.setTop (mkF m 13 #[.val (.ref ar), .val (.ref b2), .val (.long (((1 : Int64) + (v0).toInt64) + (v1).toInt64)), .second, .val (.int (2 : Int32))] [(.ref ar), (.int (2 : Int32))]))) (fun t k => XS.i2l X9.here hx rfl (hb hby n2d1_27) rfl (XS.ladd X9.here hx rfl (hb hby n2d1_28) rfl (XS.lstoreN X9.here hx rfl (hb hby n2d1_29) rfl (l' := #[.val (.ref ar), .val (.ref b2), .val (.long (((1 : Int64) + (v0).toInt64) + (v1).toInt64)), .second, .val (.int (1 : Int32))]) rfl (XT.iincV X9.here hx rfl (1 : Int32) (hb hby n2d1_30) (by decide) rfl (l' := #[.val (.ref ar), .val (.ref b2), .val (.long (((1 : Int64) + (v0).toInt64) + (v1).toInt64)), .second, .val (.int (2 : Int32))]) rfl (XS.goto X9.here hx rfl (pc0 := 33) (pc' := 10) rfl (hb hby n2d1_33) (by decide) (by decide) (XS.iload X9.here hx rfl (hb hby n2d1_10) rfl (XS.aloadN X9.here hx rfl (hb hby n2d1_12) rfl rfl k))))))) ?_
  have vq12 := f10_1
  obtain ⟨cl12, Ar12, -, qs12, qn12, -, -⟩ := vq12
  refine Wp.back (U' := (T9.setTop (mkF m 14 #[.val (.ref ar), .val (.ref b2), .val (.long (((1 : Int64) + (v0).toInt64) + (v1).toInt64)), .second, .val (.int (2 : Int32))] [(.int (2 : Int32)), (.int (2 : Int32))]))) (fun t k => X9.arraylength hx (by rw [e9]; exact Ar12.1) (State.isArrayOf_alike hZ.alike Ar12.2.1) (g := (mkF m 13 #[.val (.ref ar), .val (.ref b2), .val (.long (((1 : Int64) + (v0).toInt64) + (v1).toInt64)), .second, .val (.int (2 : Int32))] [(.ref ar), (.int (2 : Int32))])) rfl rfl (hb hby n2d1_13) t (by rw [len_of qs12 qn12]; exact k)) ?_
  refine Wp.back (U' := (T9.setTop (mkF m 37 #[.val (.ref ar), .val (.ref b2), .val (.long (((1 : Int64) + (v0).toInt64) + (v1).toInt64)), .second, .val (.int (2 : Int32))] [(.ref b2)]))) (fun t k => XS.icmpYes X9.here hx rfl (pc0 := 14) (pc' := 36) rfl (hb hby n2d1_14) rfl (flt (by decide)).2.1 (by decide) (by decide) (XS.aloadN X9.here hx rfl (hb hby n2d1_36) rfl rfl k)) ?_
  obtain ⟨fs, hr, hrun, hended, hW, hsame⟩ := X9.leave (v := (some (.ref b2))) (fun h => by rw [hret] at h; cases h)
  refine Wp.done (retOut X9 hx hret rfl (Or.inr (Or.inr (Or.inr (Or.inr ⟨rfl, rfl, rfl⟩)))) (hb hby n2d1_37) hr) hrun hended ⟨_, _, rfl, ?_, ⟨_, rfl⟩, hW, hsame.mono (by decide) (by decide)⟩
  show Q_ds2 Z ar ka v0 v1 h0 n0 _ T9.heap _
  rw [e9]
  exact ⟨b2, k2, rfl, N9, f10_2, sz_b2, V9⟩
def Q_ds3 (Z : State) (ar : Addr) (ka : ClassId) (v0 : Int32) (v1 : Int32) (v2 : Int32) (h0 : Heap) (n0 : Nat) (v : Option Value) (h : Heap) (L : List Loc) : Prop := ∃ fr0 : Addr, ∃ fk0 : ClassId, v = some (.ref fr0) ∧ Fr n0 L ∧ Keep h0 h [] ∧ h0.size ≤ fr0 ∧ Arv Z h fr0 fk0 .long (3 : Int32) [(.long (1 : Int64)), (.long ((1 : Int64) + (v0).toInt64)), (.long (((1 : Int64) + (v0).toInt64) + (v1).toInt64))] (.long (0 : Int64))
theorem n3d1_0 : decode prog_38_method_2_code 0 = .ok (.aload_n 0, 1) := by decide +kernel
theorem n3d1_1 : decode prog_38_method_2_code 1 = .ok (.arraylength, 1) := by decide +kernel
theorem n3d1_2 : decode prog_38_method_2_code 2 = .ok (.newarray .long, 2) := by decide +kernel
theorem n3d1_4 : decode prog_38_method_2_code 4 = .ok (.astore_n 1, 1) := by decide +kernel
theorem n3d1_5 : decode prog_38_method_2_code 5 = .ok (.lconst 1, 1) := by decide +kernel
theorem n3d1_6 : decode prog_38_method_2_code 6 = .ok (.lstore_n 2, 1) := by decide +kernel
theorem n3d1_7 : decode prog_38_method_2_code 7 = .ok (.iconst 0, 1) := by decide +kernel
theorem n3d1_8 : decode prog_38_method_2_code 8 = .ok (.istore 4, 2) := by decide +kernel
theorem n3d1_10 : decode prog_38_method_2_code 10 = .ok (.iload 4, 2) := by decide +kernel
theorem n3d1_12 : decode prog_38_method_2_code 12 = .ok (.aload_n 0, 1) := by decide +kernel
theorem n3d1_13 : decode prog_38_method_2_code 13 = .ok (.arraylength, 1) := by decide +kernel
theorem n3d1_14 : decode prog_38_method_2_code 14 = .ok (.if_icmp .ge 22, 3) := by decide +kernel
theorem n3d1_17 : decode prog_38_method_2_code 17 = .ok (.aload_n 1, 1) := by decide +kernel
theorem n3d1_18 : decode prog_38_method_2_code 18 = .ok (.iload 4, 2) := by decide +kernel
theorem n3d1_20 : decode prog_38_method_2_code 20 = .ok (.lload_n 2, 1) := by decide +kernel
theorem n3d1_21 : decode prog_38_method_2_code 21 = .ok (.lastore, 1) := by decide +kernel
theorem n3d1_22 : decode prog_38_method_2_code 22 = .ok (.lload_n 2, 1) := by decide +kernel
theorem n3d1_23 : decode prog_38_method_2_code 23 = .ok (.aload_n 0, 1) := by decide +kernel
theorem n3d1_24 : decode prog_38_method_2_code 24 = .ok (.iload 4, 2) := by decide +kernel
theorem n3d1_26 : decode prog_38_method_2_code 26 = .ok (.iaload, 1) := by decide +kernel
theorem n3d1_27 : decode prog_38_method_2_code 27 = .ok (.i2l, 1) := by decide +kernel
theorem n3d1_28 : decode prog_38_method_2_code 28 = .ok (.ladd, 1) := by decide +kernel
theorem n3d1_29 : decode prog_38_method_2_code 29 = .ok (.lstore_n 2, 1) := by decide +kernel
theorem n3d1_30 : decode prog_38_method_2_code 30 = .ok (.iinc 4 1, 3) := by decide +kernel
theorem n3d1_33 : decode prog_38_method_2_code 33 = .ok (.goto (-23), 3) := by decide +kernel
theorem n3d1_36 : decode prog_38_method_2_code 36 = .ok (.aload_n 1, 1) := by decide +kernel
theorem n3d1_37 : decode prog_38_method_2_code 37 = .ok (.areturn, 1) := by decide +kernel
theorem n3pn1 : plainName "com/example/mill_river/millriver/index/Index" = true := by first | (simp [plainName, overriddenIn]; done) | decide +kernel
theorem n3ef1 (m : MethodId) (x0 : Addr) : entryFrame m #[(.ref x0)] 5 = mkF m 0 #[.val (.ref x0), .unset, .unset, .unset, .unset] [] := by first | (simp [entryFrame, mkF, argsToLocals, Value.category]; done) | rfl
set_option maxRecDepth 65536 in
set_option maxHeartbeats 40000000 in
theorem rm_ds3 (l : Launch) (Z : State) (a0 : Array Value) (hw : ∀ d ∈ tables_1, d.before a0 Z = true) (ws : List Jvm.Cond) (ar : Addr) (ka : ClassId) (v0 : Int32) (v1 : Int32) (v2 : Int32) (h0 : Heap) (n0 : Nat) (Z0 : n0 ≤ h0.size) (H0 : Arv Z h0 ar ka .int (3 : Int32) [(.int v0), (.int v1), (.int v2)] (.int (0 : Int32))) :
    MetFree l (⟨"com/example/mill_river/millriver/index/Index", "documentStarts", "([I)[J"⟩ : MethodName) (head1 (Jvm.Cond.code (⟨"com/example/mill_river/millriver/index/Index", "documentStarts", "([I)[J"⟩ : MethodName) prog_38_method_2_code 5 (some (.array .long)) :: ws) ({ frames := 0, cells := 1, slots := 3, locals := 0 } : Room)) (fun a U => a = #[(.ref ar)] ∧ Z.Warmed39 U.vm ∧ U.heap = h0) (fun _ _ _ _ _ => True) (fun _ U o U' => ∃ v L, o = .returned v ∧ Q_ds3 Z ar ka v0 v1 v2 h0 n0 v U'.heap L ∧ FrameEnd U o U' L ({ frames := 0, cells := 1, slots := 3, locals := 0 } : Room).cells ({ frames := 0, cells := 1, slots := 3, locals := 0 } : Room).slots) := by
  refine MetFree.of_bodySF (plainFor_of_name n3pn1) hisR ?_
  intro p e s m args below meth c s₁ Bd hml0 hP hK
  obtain ⟨rfl, hZ, hh⟩ := hP
  have hx := Bd.exec
  have hby := Bd.bytes
  have hret := Bd.returns
  have hlk := Bd.notSynchronized
  have hml : c.maxLocals = 5 := hml0
  have hown : s.vm.findClass "com/example/mill_river/millriver/index/Index" = some m.cls := findClass_of_methodNamed Bd.named
  have hnm := (name_of_methodNamed Bd.named Bd.method).1
  have X0 : Stand p l e ({ frames := 0, cells := 1, slots := 3, locals := 0 } : Room) s m #[(.ref ar)] below meth c s₁ [] 0 0 := Stand.of_body Bd
  have e0 : s₁.heap = h0 := by rw [← hh, Bd.state]; rfl
  have N0 := Fr.nil n0
  show Wp p e below (fun o s₂ => ∃ v L, o = .returned v ∧ Q_ds3 Z ar ka v0 v1 v2 h0 n0 v s₂.heap L ∧ FrameEnd s o s₂ L ({ frames := 0, cells := 1, slots := 3, locals := 0 } : Room).cells ({ frames := 0, cells := 1, slots := 3, locals := 0 } : Room).slots) _
  refine Wp.back (U' := (s₁.setTop (mkF m 0 #[.val (.ref ar), .unset, .unset, .unset, .unset] []))) (fun t k => castTop (n3ef1 m ar) k) ?_
  refine Wp.back (U' := (s₁.setTop (mkF m 1 #[.val (.ref ar), .unset, .unset, .unset, .unset] [(.ref ar)]))) (fun t k => XS.aloadN X0.here hx rfl (hb hby n3d1_0) rfl rfl k) ?_
  have vq1 := H0
  obtain ⟨cl1, Ar1, -, qs1, qn1, -, -⟩ := vq1
  refine Wp.back (U' := (s₁.setTop (mkF m 2 #[.val (.ref ar), .unset, .unset, .unset, .unset] [(.int (3 : Int32))]))) (fun t k => X0.arraylength hx (by rw [e0]; exact Ar1.1) (State.isArrayOf_alike hZ.alike Ar1.2.1) (g := (mkF m 1 #[.val (.ref ar), .unset, .unset, .unset, .unset] [(.ref ar)])) rfl rfl (hb hby n3d1_1) t (by rw [len_of qs1 qn1]; exact k)) ?_
  obtain ⟨T2, h2, k2, X2, e2, E2, A2, st2⟩ := newP X0 hx hZ (hw _ (List.mem_of_getElem? (i := 6) rfl)) e0 (g := (mkF m 2 #[.val (.ref ar), .unset, .unset, .unset, .unset] [(.int (3 : Int32))])) rfl (hb hby n3d1_2) rfl (by decide) (cap := 3) (by decide) (by decide) (by decide) (by decide)
  obtain ⟨b2, g2⟩ : ∃ z, z = h0.size := ⟨_, rfl⟩
  rw [← g2] at A2 st2
  have ne_ar_b2 : ar ≠ b2 := Nat.ne_of_lt (Nat.lt_of_lt_of_le H0.lt (Nat.le_of_eq g2.symm))
  have g_b2 : n0 ≤ b2 := Nat.le_trans Z0 (Nat.le_of_eq g2.symm)
  have sz_b2 : h0.size ≤ b2 := Nat.le_trans (Keep.refl h0 []).1 (Nat.le_of_eq g2.symm)
  have f3_0 := Nat.le_trans Z0 E2.1
  have f3_1 := H0.ext E2
  have f3_2 := (Keep.refl h0 []).ext E2
  have V2 : Arv Z h2 b2 k2 .long (3 : Int32) [(.long (0 : Int64)), (.long (0 : Int64)), (.long (0 : Int64))] (.long (0 : Int64)) := (Arv.new A2 (by decide)).pad (pad_rep [] (.long (0 : Int64)) 3)
  refine Wp.back (U' := (T2.setTop (mkF m 4 #[.val (.ref ar), .unset, .unset, .unset, .unset] [(.ref b2)]))) st2 ?_
  refine Wp.back (U' := (T2.setTop (mkF m 13 #[.val (.ref ar), .val (.ref b2), .val (.long (1 : Int64)), .second, .val (.int (0 : Int32))] [(.ref ar), (.int (0 : Int32))]))) (fun t k => XS.astoreN X2.here hx rfl (hb hby n3d1_4) rfl rfl (l' := #[.val (.ref ar), .val (.ref b2), .unset, .unset, .unset]) rfl (XT.lconstV X2.here hx rfl (1 : Int64) (hb hby n3d1_5) (by decide) (XS.lstoreN X2.here hx rfl (hb hby n3d1_6) rfl (l' := #[.val (.ref ar), .val (.ref b2), .val (.long (1 : Int64)), .second, .unset]) rfl (XT.iconstV X2.here hx rfl (0 : Int32) (hb hby n3d1_7) (by decide) (XS.istore X2.here hx rfl (hb hby n3d1_8) rfl (l' := #[.val (.ref ar), .val (.ref b2), .val (.long (1 : Int64)), .second, .val (.int (0 : Int32))]) rfl (XS.iload X2.here hx rfl (hb hby n3d1_10) rfl (XS.aloadN X2.here hx rfl (hb hby n3d1_12) rfl rfl k))))))) ?_
  have vq4 := f3_1
  obtain ⟨cl4, Ar4, -, qs4, qn4, -, -⟩ := vq4
  refine Wp.back (U' := (T2.setTop (mkF m 14 #[.val (.ref ar), .val (.ref b2), .val (.long (1 : Int64)), .second, .val (.int (0 : Int32))] [(.int (3 : Int32)), (.int (0 : Int32))]))) (fun t k => X2.arraylength hx (by rw [e2]; exact Ar4.1) (State.isArrayOf_alike hZ.alike Ar4.2.1) (g := (mkF m 13 #[.val (.ref ar), .val (.ref b2), .val (.long (1 : Int64)), .second, .val (.int (0 : Int32))] [(.ref ar), (.int (0 : Int32))])) rfl rfl (hb hby n3d1_13) t (by rw [len_of qs4 qn4]; exact k)) ?_
  refine Wp.back (U' := (T2.setTop (mkF m 21 #[.val (.ref ar), .val (.ref b2), .val (.long (1 : Int64)), .second, .val (.int (0 : Int32))] [(.long (1 : Int64)), (.int (0 : Int32)), (.ref b2)]))) (fun t k => XS.icmpNo X2.here hx rfl (hb hby n3d1_14) rfl (tlt (by decide)).2.1 (XS.aloadN X2.here hx rfl (hb hby n3d1_17) rfl rfl (XS.iload X2.here hx rfl (hb hby n3d1_18) rfl (XS.lloadN X2.here hx rfl (hb hby n3d1_20) rfl k)))) ?_
  have vq5 := V2
  obtain ⟨cl5, Ar5, qa5, qs5, qn5, qh5, qg5⟩ := vq5
  have hin5 : ¬ ((0 : Int32) < 0 ∨ cl5.slots.size ≤ ((0 : Int32)).toNatClampNeg) := inb_of qs5 ⟨by decide, by decide⟩
  obtain ⟨T5, h5, X5, e5, W5, st5⟩ := stJ X2 hx hZ e2 Ar5 (j := (0 : Int32)) hin5 (g := (mkF m 21 #[.val (.ref ar), .val (.ref b2), .val (.long (1 : Int64)), .second, .val (.int (0 : Int32))] [(.long (1 : Int64)), (.int (0 : Int32)), (.ref b2)])) rfl rfl (hb hby n3d1_21)
  have V5 : Arv Z h5 b2 k2 .long (3 : Int32) [(.long (1 : Int64)), (.long (0 : Int64)), (.long (0 : Int64))] (.long (0 : Int64)) := Arv.set Ar5 qa5 qs5 qn5 qh5 qg5 rfl W5 0 rfl (Nat.le_of_ble_eq_true rfl)
  have f6_0 := Nat.le_trans f3_0 (Keep.of_wr W5).1
  have f6_1 := f3_1.other W5 ne_ar_b2
  have f6_2 := f3_2.wr W5 (Or.inr sz_b2)
  have N5 := Fr.snoc X5 N0 g_b2
  refine Wp.back (U' := (T5.setTop (mkF m 22 #[.val (.ref ar), .val (.ref b2), .val (.long (1 : Int64)), .second, .val (.int (0 : Int32))] []))) st5 ?_
  refine Wp.back (U' := (T5.setTop (mkF m 26 #[.val (.ref ar), .val (.ref b2), .val (.long (1 : Int64)), .second, .val (.int (0 : Int32))] [(.int (0 : Int32)), (.ref ar), (.long (1 : Int64))]))) (fun t k => XS.lloadN X5.here hx rfl (hb hby n3d1_22) rfl (XS.aloadN X5.here hx rfl (hb hby n3d1_23) rfl rfl (XS.iload X5.here hx rfl (hb hby n3d1_24) rfl k))) ?_
  have vq7 := f6_1
  obtain ⟨cl7, Ar7, qa7, qs7, qn7, qh7, qg7⟩ := vq7
  have hin7 : ¬ ((0 : Int32) < 0 ∨ cl7.slots.size ≤ ((0 : Int32)).toNatClampNeg) := inb_of qs7 ⟨by decide, by decide⟩
  have hat7 : cl7.slots[((0 : Int32)).toNatClampNeg]? = some (.int v0) := Has.at qh7 hin7 rfl
  refine Wp.back (U' := (T5.setTop (mkF m 27 #[.val (.ref ar), .val (.ref b2), .val (.long (1 : Int64)), .second, .val (.int (0 : Int32))] [(.int v0), (.long (1 : Int64))]))) (fun t k => X5.iaload hx (j := (0 : Int32)) (v := (.int v0)) (by rw [e5]; exact Ar7.1) (State.isArrayOf_alike hZ.alike Ar7.2.1) Ar7.2.2 hin7 hat7 (g := (mkF m 26 #[.val (.ref ar), .val (.ref b2), .val (.long (1 : Int64)), .second, .val (.int (0 : Int32))] [(.int (0 : Int32)), (.ref ar), (.long (1 : Int64))])) rfl rfl (hb hby n3d1_26) t k) ?_
  refine Wp.back (U' := (T5.setTop (mkF m 13 #[.val (.ref ar), .val (.ref b2), .val (.long ((1 : Int64) + (v0).toInt64)), .second, .val (.int (1 : Int32))] [(.ref ar), (.int (1 : Int32))]))) (fun t k => XS.i2l X5.here hx rfl (hb hby n3d1_27) rfl (XS.ladd X5.here hx rfl (hb hby n3d1_28) rfl (XS.lstoreN X5.here hx rfl (hb hby n3d1_29) rfl (l' := #[.val (.ref ar), .val (.ref b2), .val (.long ((1 : Int64) + (v0).toInt64)), .second, .val (.int (0 : Int32))]) rfl (XT.iincV X5.here hx rfl (1 : Int32) (hb hby n3d1_30) (by decide) rfl (l' := #[.val (.ref ar), .val (.ref b2), .val (.long ((1 : Int64) + (v0).toInt64)), .second, .val (.int (1 : Int32))]) rfl (XS.goto X5.here hx rfl (pc0 := 33) (pc' := 10) rfl (hb hby n3d1_33) (by decide) (by decide) (XS.iload X5.here hx rfl (hb hby n3d1_10) rfl (XS.aloadN X5.here hx rfl (hb hby n3d1_12) rfl rfl k))))))) ?_
  have vq8 := f6_1
  obtain ⟨cl8, Ar8, -, qs8, qn8, -, -⟩ := vq8
  refine Wp.back (U' := (T5.setTop (mkF m 14 #[.val (.ref ar), .val (.ref b2), .val (.long ((1 : Int64) + (v0).toInt64)), .second, .val (.int (1 : Int32))] [(.int (3 : Int32)), (.int (1 : Int32))]))) (fun t k => X5.arraylength hx (by rw [e5]; exact Ar8.1) (State.isArrayOf_alike hZ.alike Ar8.2.1) (g := (mkF m 13 #[.val (.ref ar), .val (.ref b2), .val (.long ((1 : Int64) + (v0).toInt64)), .second, .val (.int (1 : Int32))] [(.ref ar), (.int (1 : Int32))])) rfl rfl (hb hby n3d1_13) t (by rw [len_of qs8 qn8]; exact k)) ?_
  refine Wp.back (U' := (T5.setTop (mkF m 21 #[.val (.ref ar), .val (.ref b2), .val (.long ((1 : Int64) + (v0).toInt64)), .second, .val (.int (1 : Int32))] [(.long ((1 : Int64) + (v0).toInt64)), (.int (1 : Int32)), (.ref b2)]))) (fun t k => XS.icmpNo X5.here hx rfl (hb hby n3d1_14) rfl (tlt (by decide)).2.1 (XS.aloadN X5.here hx rfl (hb hby n3d1_17) rfl rfl (XS.iload X5.here hx rfl (hb hby n3d1_18) rfl (XS.lloadN X5.here hx rfl (hb hby n3d1_20) rfl k)))) ?_
  have vq9 := V5
  obtain ⟨cl9, Ar9, qa9, qs9, qn9, qh9, qg9⟩ := vq9
  have hin9 : ¬ ((1 : Int32) < 0 ∨ cl9.slots.size ≤ ((1 : Int32)).toNatClampNeg) := inb_of qs9 ⟨by decide, by decide⟩
  obtain ⟨T9, h9, X9, e9, W9, st9⟩ := stJ X5 hx hZ e5 Ar9 (j := (1 : Int32)) hin9 (g := (mkF m 21 #[.val (.ref ar), .val (.ref b2), .val (.long ((1 : Int64) + (v0).toInt64)), .second, .val (.int (1 : Int32))] [(.long ((1 : Int64) + (v0).toInt64)), (.int (1 : Int32)), (.ref b2)])) rfl rfl (hb hby n3d1_21)
  have V9 : Arv Z h9 b2 k2 .long (3 : Int32) [(.long (1 : Int64)), (.long ((1 : Int64) + (v0).toInt64)), (.long (0 : Int64))] (.long (0 : Int64)) := Arv.set Ar9 qa9 qs9 qn9 qh9 qg9 rfl W9 1 rfl (Nat.le_of_ble_eq_true rfl)
  have f10_0 := Nat.le_trans f6_0 (Keep.of_wr W9).1
  have f10_1 := f6_1.other W9 ne_ar_b2
  have f10_2 := f6_2.wr W9 (Or.inr sz_b2)
  have N9 := Fr.snoc X9 N5 g_b2
  refine Wp.back (U' := (T9.setTop (mkF m 22 #[.val (.ref ar), .val (.ref b2), .val (.long ((1 : Int64) + (v0).toInt64)), .second, .val (.int (1 : Int32))] []))) st9 ?_
  refine Wp.back (U' := (T9.setTop (mkF m 26 #[.val (.ref ar), .val (.ref b2), .val (.long ((1 : Int64) + (v0).toInt64)), .second, .val (.int (1 : Int32))] [(.int (1 : Int32)), (.ref ar), (.long ((1 : Int64) + (v0).toInt64))]))) (fun t k => XS.lloadN X9.here hx rfl (hb hby n3d1_22) rfl (XS.aloadN X9.here hx rfl (hb hby n3d1_23) rfl rfl (XS.iload X9.here hx rfl (hb hby n3d1_24) rfl k))) ?_
  have vq11 := f10_1
  obtain ⟨cl11, Ar11, qa11, qs11, qn11, qh11, qg11⟩ := vq11
  have hin11 : ¬ ((1 : Int32) < 0 ∨ cl11.slots.size ≤ ((1 : Int32)).toNatClampNeg) := inb_of qs11 ⟨by decide, by decide⟩
  have hat11 : cl11.slots[((1 : Int32)).toNatClampNeg]? = some (.int v1) := Has.at qh11 hin11 rfl
  refine Wp.back (U' := (T9.setTop (mkF m 27 #[.val (.ref ar), .val (.ref b2), .val (.long ((1 : Int64) + (v0).toInt64)), .second, .val (.int (1 : Int32))] [(.int v1), (.long ((1 : Int64) + (v0).toInt64))]))) (fun t k => X9.iaload hx (j := (1 : Int32)) (v := (.int v1)) (by rw [e9]; exact Ar11.1) (State.isArrayOf_alike hZ.alike Ar11.2.1) Ar11.2.2 hin11 hat11 (g := (mkF m 26 #[.val (.ref ar), .val (.ref b2), .val (.long ((1 : Int64) + (v0).toInt64)), .second, .val (.int (1 : Int32))] [(.int (1 : Int32)), (.ref ar), (.long ((1 : Int64) + (v0).toInt64))])) rfl rfl (hb hby n3d1_26) t k) ?_
  refine Wp.back (U' := (T9.setTop (mkF m 13 #[.val (.ref ar), .val (.ref b2), .val (.long (((1 : Int64) + (v0).toInt64) + (v1).toInt64)), .second, .val (.int (2 : Int32))] [(.ref ar), (.int (2 : Int32))]))) (fun t k => XS.i2l X9.here hx rfl (hb hby n3d1_27) rfl (XS.ladd X9.here hx rfl (hb hby n3d1_28) rfl (XS.lstoreN X9.here hx rfl (hb hby n3d1_29) rfl (l' := #[.val (.ref ar), .val (.ref b2), .val (.long (((1 : Int64) + (v0).toInt64) + (v1).toInt64)), .second, .val (.int (1 : Int32))]) rfl (XT.iincV X9.here hx rfl (1 : Int32) (hb hby n3d1_30) (by decide) rfl (l' := #[.val (.ref ar), .val (.ref b2), .val (.long (((1 : Int64) + (v0).toInt64) + (v1).toInt64)), .second, .val (.int (2 : Int32))]) rfl (XS.goto X9.here hx rfl (pc0 := 33) (pc' := 10) rfl (hb hby n3d1_33) (by decide) (by decide) (XS.iload X9.here hx rfl (hb hby n3d1_10) rfl (XS.aloadN X9.here hx rfl (hb hby n3d1_12) rfl rfl k))))))) ?_
  have vq12 := f10_1
  obtain ⟨cl12, Ar12, -, qs12, qn12, -, -⟩ := vq12
  refine Wp.back (U' := (T9.setTop (mkF m 14 #[.val (.ref ar), .val (.ref b2), .val (.long (((1 : Int64) + (v0).toInt64) + (v1).toInt64)), .second, .val (.int (2 : Int32))] [(.int (3 : Int32)), (.int (2 : Int32))]))) (fun t k => X9.arraylength hx (by rw [e9]; exact Ar12.1) (State.isArrayOf_alike hZ.alike Ar12.2.1) (g := (mkF m 13 #[.val (.ref ar), .val (.ref b2), .val (.long (((1 : Int64) + (v0).toInt64) + (v1).toInt64)), .second, .val (.int (2 : Int32))] [(.ref ar), (.int (2 : Int32))])) rfl rfl (hb hby n3d1_13) t (by rw [len_of qs12 qn12]; exact k)) ?_
  refine Wp.back (U' := (T9.setTop (mkF m 21 #[.val (.ref ar), .val (.ref b2), .val (.long (((1 : Int64) + (v0).toInt64) + (v1).toInt64)), .second, .val (.int (2 : Int32))] [(.long (((1 : Int64) + (v0).toInt64) + (v1).toInt64)), (.int (2 : Int32)), (.ref b2)]))) (fun t k => XS.icmpNo X9.here hx rfl (hb hby n3d1_14) rfl (tlt (by decide)).2.1 (XS.aloadN X9.here hx rfl (hb hby n3d1_17) rfl rfl (XS.iload X9.here hx rfl (hb hby n3d1_18) rfl (XS.lloadN X9.here hx rfl (hb hby n3d1_20) rfl k)))) ?_
  have vq13 := V9
  obtain ⟨cl13, Ar13, qa13, qs13, qn13, qh13, qg13⟩ := vq13
  have hin13 : ¬ ((2 : Int32) < 0 ∨ cl13.slots.size ≤ ((2 : Int32)).toNatClampNeg) := inb_of qs13 ⟨by decide, by decide⟩
  obtain ⟨T13, h13, X13, e13, W13, st13⟩ := stJ X9 hx hZ e9 Ar13 (j := (2 : Int32)) hin13 (g := (mkF m 21 #[.val (.ref ar), .val (.ref b2), .val (.long (((1 : Int64) + (v0).toInt64) + (v1).toInt64)), .second, .val (.int (2 : Int32))] [(.long (((1 : Int64) + (v0).toInt64) + (v1).toInt64)), (.int (2 : Int32)), (.ref b2)])) rfl rfl (hb hby n3d1_21)
  have V13 : Arv Z h13 b2 k2 .long (3 : Int32) [(.long (1 : Int64)), (.long ((1 : Int64) + (v0).toInt64)), (.long (((1 : Int64) + (v0).toInt64) + (v1).toInt64))] (.long (0 : Int64)) := Arv.set Ar13 qa13 qs13 qn13 qh13 qg13 rfl W13 2 rfl (Nat.le_of_ble_eq_true rfl)
  have f14_0 := Nat.le_trans f10_0 (Keep.of_wr W13).1
  have f14_1 := f10_1.other W13 ne_ar_b2
  have f14_2 := f10_2.wr W13 (Or.inr sz_b2)
  have N13 := Fr.snoc X13 N9 g_b2
  refine Wp.back (U' := (T13.setTop (mkF m 22 #[.val (.ref ar), .val (.ref b2), .val (.long (((1 : Int64) + (v0).toInt64) + (v1).toInt64)), .second, .val (.int (2 : Int32))] []))) st13 ?_
  refine Wp.back (U' := (T13.setTop (mkF m 26 #[.val (.ref ar), .val (.ref b2), .val (.long (((1 : Int64) + (v0).toInt64) + (v1).toInt64)), .second, .val (.int (2 : Int32))] [(.int (2 : Int32)), (.ref ar), (.long (((1 : Int64) + (v0).toInt64) + (v1).toInt64))]))) (fun t k => XS.lloadN X13.here hx rfl (hb hby n3d1_22) rfl (XS.aloadN X13.here hx rfl (hb hby n3d1_23) rfl rfl (XS.iload X13.here hx rfl (hb hby n3d1_24) rfl k))) ?_
  have vq15 := f14_1
  obtain ⟨cl15, Ar15, qa15, qs15, qn15, qh15, qg15⟩ := vq15
  have hin15 : ¬ ((2 : Int32) < 0 ∨ cl15.slots.size ≤ ((2 : Int32)).toNatClampNeg) := inb_of qs15 ⟨by decide, by decide⟩
  have hat15 : cl15.slots[((2 : Int32)).toNatClampNeg]? = some (.int v2) := Has.at qh15 hin15 rfl
  refine Wp.back (U' := (T13.setTop (mkF m 27 #[.val (.ref ar), .val (.ref b2), .val (.long (((1 : Int64) + (v0).toInt64) + (v1).toInt64)), .second, .val (.int (2 : Int32))] [(.int v2), (.long (((1 : Int64) + (v0).toInt64) + (v1).toInt64))]))) (fun t k => X13.iaload hx (j := (2 : Int32)) (v := (.int v2)) (by rw [e13]; exact Ar15.1) (State.isArrayOf_alike hZ.alike Ar15.2.1) Ar15.2.2 hin15 hat15 (g := (mkF m 26 #[.val (.ref ar), .val (.ref b2), .val (.long (((1 : Int64) + (v0).toInt64) + (v1).toInt64)), .second, .val (.int (2 : Int32))] [(.int (2 : Int32)), (.ref ar), (.long (((1 : Int64) + (v0).toInt64) + (v1).toInt64))])) rfl rfl (hb hby n3d1_26) t k) ?_
  refine Wp.back (U' := (T13.setTop (mkF m 13 #[.val (.ref ar), .val (.ref b2), .val (.long ((((1 : Int64) + (v0).toInt64) + (v1).toInt64) + (v2).toInt64)), .second, .val (.int (3 : Int32))] [(.ref ar), (.int (3 : Int32))]))) (fun t k => XS.i2l X13.here hx rfl (hb hby n3d1_27) rfl (XS.ladd X13.here hx rfl (hb hby n3d1_28) rfl (XS.lstoreN X13.here hx rfl (hb hby n3d1_29) rfl (l' := #[.val (.ref ar), .val (.ref b2), .val (.long ((((1 : Int64) + (v0).toInt64) + (v1).toInt64) + (v2).toInt64)), .second, .val (.int (2 : Int32))]) rfl (XT.iincV X13.here hx rfl (1 : Int32) (hb hby n3d1_30) (by decide) rfl (l' := #[.val (.ref ar), .val (.ref b2), .val (.long ((((1 : Int64) + (v0).toInt64) + (v1).toInt64) + (v2).toInt64)), .second, .val (.int (3 : Int32))]) rfl (XS.goto X13.here hx rfl (pc0 := 33) (pc' := 10) rfl (hb hby n3d1_33) (by decide) (by decide) (XS.iload X13.here hx rfl (hb hby n3d1_10) rfl (XS.aloadN X13.here hx rfl (hb hby n3d1_12) rfl rfl k))))))) ?_
  have vq16 := f14_1
  obtain ⟨cl16, Ar16, -, qs16, qn16, -, -⟩ := vq16
  refine Wp.back (U' := (T13.setTop (mkF m 14 #[.val (.ref ar), .val (.ref b2), .val (.long ((((1 : Int64) + (v0).toInt64) + (v1).toInt64) + (v2).toInt64)), .second, .val (.int (3 : Int32))] [(.int (3 : Int32)), (.int (3 : Int32))]))) (fun t k => X13.arraylength hx (by rw [e13]; exact Ar16.1) (State.isArrayOf_alike hZ.alike Ar16.2.1) (g := (mkF m 13 #[.val (.ref ar), .val (.ref b2), .val (.long ((((1 : Int64) + (v0).toInt64) + (v1).toInt64) + (v2).toInt64)), .second, .val (.int (3 : Int32))] [(.ref ar), (.int (3 : Int32))])) rfl rfl (hb hby n3d1_13) t (by rw [len_of qs16 qn16]; exact k)) ?_
  refine Wp.back (U' := (T13.setTop (mkF m 37 #[.val (.ref ar), .val (.ref b2), .val (.long ((((1 : Int64) + (v0).toInt64) + (v1).toInt64) + (v2).toInt64)), .second, .val (.int (3 : Int32))] [(.ref b2)]))) (fun t k => XS.icmpYes X13.here hx rfl (pc0 := 14) (pc' := 36) rfl (hb hby n3d1_14) rfl (flt (by decide)).2.1 (by decide) (by decide) (XS.aloadN X13.here hx rfl (hb hby n3d1_36) rfl rfl k)) ?_
  obtain ⟨fs, hr, hrun, hended, hW, hsame⟩ := X13.leave (v := (some (.ref b2))) (fun h => by rw [hret] at h; cases h)
  refine Wp.done (retOut X13 hx hret rfl (Or.inr (Or.inr (Or.inr (Or.inr ⟨rfl, rfl, rfl⟩)))) (hb hby n3d1_37) hr) hrun hended ⟨_, _, rfl, ?_, ⟨_, rfl⟩, hW, hsame.mono (by decide) (by decide)⟩
  show Q_ds3 Z ar ka v0 v1 v2 h0 n0 _ T13.heap _
  rw [e13]
  exact ⟨b2, k2, rfl, N13, f14_2, sz_b2, V13⟩
def Q_ds4 (Z : State) (ar : Addr) (ka : ClassId) (v0 : Int32) (v1 : Int32) (v2 : Int32) (v3 : Int32) (h0 : Heap) (n0 : Nat) (v : Option Value) (h : Heap) (L : List Loc) : Prop := ∃ fr0 : Addr, ∃ fk0 : ClassId, v = some (.ref fr0) ∧ Fr n0 L ∧ Keep h0 h [] ∧ h0.size ≤ fr0 ∧ Arv Z h fr0 fk0 .long (4 : Int32) [(.long (1 : Int64)), (.long ((1 : Int64) + (v0).toInt64)), (.long (((1 : Int64) + (v0).toInt64) + (v1).toInt64)), (.long ((((1 : Int64) + (v0).toInt64) + (v1).toInt64) + (v2).toInt64))] (.long (0 : Int64))
theorem n4d1_0 : decode prog_38_method_2_code 0 = .ok (.aload_n 0, 1) := by decide +kernel
theorem n4d1_1 : decode prog_38_method_2_code 1 = .ok (.arraylength, 1) := by decide +kernel
theorem n4d1_2 : decode prog_38_method_2_code 2 = .ok (.newarray .long, 2) := by decide +kernel
theorem n4d1_4 : decode prog_38_method_2_code 4 = .ok (.astore_n 1, 1) := by decide +kernel
theorem n4d1_5 : decode prog_38_method_2_code 5 = .ok (.lconst 1, 1) := by decide +kernel
theorem n4d1_6 : decode prog_38_method_2_code 6 = .ok (.lstore_n 2, 1) := by decide +kernel
theorem n4d1_7 : decode prog_38_method_2_code 7 = .ok (.iconst 0, 1) := by decide +kernel
theorem n4d1_8 : decode prog_38_method_2_code 8 = .ok (.istore 4, 2) := by decide +kernel
theorem n4d1_10 : decode prog_38_method_2_code 10 = .ok (.iload 4, 2) := by decide +kernel
theorem n4d1_12 : decode prog_38_method_2_code 12 = .ok (.aload_n 0, 1) := by decide +kernel
theorem n4d1_13 : decode prog_38_method_2_code 13 = .ok (.arraylength, 1) := by decide +kernel
theorem n4d1_14 : decode prog_38_method_2_code 14 = .ok (.if_icmp .ge 22, 3) := by decide +kernel
theorem n4d1_17 : decode prog_38_method_2_code 17 = .ok (.aload_n 1, 1) := by decide +kernel
theorem n4d1_18 : decode prog_38_method_2_code 18 = .ok (.iload 4, 2) := by decide +kernel
theorem n4d1_20 : decode prog_38_method_2_code 20 = .ok (.lload_n 2, 1) := by decide +kernel
theorem n4d1_21 : decode prog_38_method_2_code 21 = .ok (.lastore, 1) := by decide +kernel
theorem n4d1_22 : decode prog_38_method_2_code 22 = .ok (.lload_n 2, 1) := by decide +kernel
theorem n4d1_23 : decode prog_38_method_2_code 23 = .ok (.aload_n 0, 1) := by decide +kernel
theorem n4d1_24 : decode prog_38_method_2_code 24 = .ok (.iload 4, 2) := by decide +kernel
theorem n4d1_26 : decode prog_38_method_2_code 26 = .ok (.iaload, 1) := by decide +kernel
theorem n4d1_27 : decode prog_38_method_2_code 27 = .ok (.i2l, 1) := by decide +kernel
theorem n4d1_28 : decode prog_38_method_2_code 28 = .ok (.ladd, 1) := by decide +kernel
theorem n4d1_29 : decode prog_38_method_2_code 29 = .ok (.lstore_n 2, 1) := by decide +kernel
theorem n4d1_30 : decode prog_38_method_2_code 30 = .ok (.iinc 4 1, 3) := by decide +kernel
theorem n4d1_33 : decode prog_38_method_2_code 33 = .ok (.goto (-23), 3) := by decide +kernel
theorem n4d1_36 : decode prog_38_method_2_code 36 = .ok (.aload_n 1, 1) := by decide +kernel
theorem n4d1_37 : decode prog_38_method_2_code 37 = .ok (.areturn, 1) := by decide +kernel
theorem n4pn1 : plainName "com/example/mill_river/millriver/index/Index" = true := by first | (simp [plainName, overriddenIn]; done) | decide +kernel
theorem n4ef1 (m : MethodId) (x0 : Addr) : entryFrame m #[(.ref x0)] 5 = mkF m 0 #[.val (.ref x0), .unset, .unset, .unset, .unset] [] := by first | (simp [entryFrame, mkF, argsToLocals, Value.category]; done) | rfl
set_option maxRecDepth 65536 in
set_option maxHeartbeats 40000000 in
theorem rm_ds4 (l : Launch) (Z : State) (a0 : Array Value) (hw : ∀ d ∈ tables_1, d.before a0 Z = true) (ws : List Jvm.Cond) (ar : Addr) (ka : ClassId) (v0 : Int32) (v1 : Int32) (v2 : Int32) (v3 : Int32) (h0 : Heap) (n0 : Nat) (Z0 : n0 ≤ h0.size) (H0 : Arv Z h0 ar ka .int (4 : Int32) [(.int v0), (.int v1), (.int v2), (.int v3)] (.int (0 : Int32))) :
    MetFree l (⟨"com/example/mill_river/millriver/index/Index", "documentStarts", "([I)[J"⟩ : MethodName) (head1 (Jvm.Cond.code (⟨"com/example/mill_river/millriver/index/Index", "documentStarts", "([I)[J"⟩ : MethodName) prog_38_method_2_code 5 (some (.array .long)) :: ws) ({ frames := 0, cells := 1, slots := 4, locals := 0 } : Room)) (fun a U => a = #[(.ref ar)] ∧ Z.Warmed39 U.vm ∧ U.heap = h0) (fun _ _ _ _ _ => True) (fun _ U o U' => ∃ v L, o = .returned v ∧ Q_ds4 Z ar ka v0 v1 v2 v3 h0 n0 v U'.heap L ∧ FrameEnd U o U' L ({ frames := 0, cells := 1, slots := 4, locals := 0 } : Room).cells ({ frames := 0, cells := 1, slots := 4, locals := 0 } : Room).slots) := by
  refine MetFree.of_bodySF (plainFor_of_name n4pn1) hisR ?_
  intro p e s m args below meth c s₁ Bd hml0 hP hK
  obtain ⟨rfl, hZ, hh⟩ := hP
  have hx := Bd.exec
  have hby := Bd.bytes
  have hret := Bd.returns
  have hlk := Bd.notSynchronized
  have hml : c.maxLocals = 5 := hml0
  have hown : s.vm.findClass "com/example/mill_river/millriver/index/Index" = some m.cls := findClass_of_methodNamed Bd.named
  have hnm := (name_of_methodNamed Bd.named Bd.method).1
  have X0 : Stand p l e ({ frames := 0, cells := 1, slots := 4, locals := 0 } : Room) s m #[(.ref ar)] below meth c s₁ [] 0 0 := Stand.of_body Bd
  have e0 : s₁.heap = h0 := by rw [← hh, Bd.state]; rfl
  have N0 := Fr.nil n0
  show Wp p e below (fun o s₂ => ∃ v L, o = .returned v ∧ Q_ds4 Z ar ka v0 v1 v2 v3 h0 n0 v s₂.heap L ∧ FrameEnd s o s₂ L ({ frames := 0, cells := 1, slots := 4, locals := 0 } : Room).cells ({ frames := 0, cells := 1, slots := 4, locals := 0 } : Room).slots) _
  refine Wp.back (U' := (s₁.setTop (mkF m 0 #[.val (.ref ar), .unset, .unset, .unset, .unset] []))) (fun t k => castTop (n4ef1 m ar) k) ?_
  refine Wp.back (U' := (s₁.setTop (mkF m 1 #[.val (.ref ar), .unset, .unset, .unset, .unset] [(.ref ar)]))) (fun t k => XS.aloadN X0.here hx rfl (hb hby n4d1_0) rfl rfl k) ?_
  have vq1 := H0
  obtain ⟨cl1, Ar1, -, qs1, qn1, -, -⟩ := vq1
  refine Wp.back (U' := (s₁.setTop (mkF m 2 #[.val (.ref ar), .unset, .unset, .unset, .unset] [(.int (4 : Int32))]))) (fun t k => X0.arraylength hx (by rw [e0]; exact Ar1.1) (State.isArrayOf_alike hZ.alike Ar1.2.1) (g := (mkF m 1 #[.val (.ref ar), .unset, .unset, .unset, .unset] [(.ref ar)])) rfl rfl (hb hby n4d1_1) t (by rw [len_of qs1 qn1]; exact k)) ?_
  obtain ⟨T2, h2, k2, X2, e2, E2, A2, st2⟩ := newP X0 hx hZ (hw _ (List.mem_of_getElem? (i := 6) rfl)) e0 (g := (mkF m 2 #[.val (.ref ar), .unset, .unset, .unset, .unset] [(.int (4 : Int32))])) rfl (hb hby n4d1_2) rfl (by decide) (cap := 4) (by decide) (by decide) (by decide) (by decide)
  obtain ⟨b2, g2⟩ : ∃ z, z = h0.size := ⟨_, rfl⟩
  rw [← g2] at A2 st2
  have ne_ar_b2 : ar ≠ b2 := Nat.ne_of_lt (Nat.lt_of_lt_of_le H0.lt (Nat.le_of_eq g2.symm))
  have g_b2 : n0 ≤ b2 := Nat.le_trans Z0 (Nat.le_of_eq g2.symm)
  have sz_b2 : h0.size ≤ b2 := Nat.le_trans (Keep.refl h0 []).1 (Nat.le_of_eq g2.symm)
  have f3_0 := Nat.le_trans Z0 E2.1
  have f3_1 := H0.ext E2
  have f3_2 := (Keep.refl h0 []).ext E2
  have V2 : Arv Z h2 b2 k2 .long (4 : Int32) [(.long (0 : Int64)), (.long (0 : Int64)), (.long (0 : Int64)), (.long (0 : Int64))] (.long (0 : Int64)) := (Arv.new A2 (by decide)).pad (pad_rep [] (.long (0 : Int64)) 4)
  refine Wp.back (U' := (T2.setTop (mkF m 4 #[.val (.ref ar), .unset, .unset, .unset, .unset] [(.ref b2)]))) st2 ?_
  refine Wp.back (U' := (T2.setTop (mkF m 13 #[.val (.ref ar), .val (.ref b2), .val (.long (1 : Int64)), .second, .val (.int (0 : Int32))] [(.ref ar), (.int (0 : Int32))]))) (fun t k => XS.astoreN X2.here hx rfl (hb hby n4d1_4) rfl rfl (l' := #[.val (.ref ar), .val (.ref b2), .unset, .unset, .unset]) rfl (XT.lconstV X2.here hx rfl (1 : Int64) (hb hby n4d1_5) (by decide) (XS.lstoreN X2.here hx rfl (hb hby n4d1_6) rfl (l' := #[.val (.ref ar), .val (.ref b2), .val (.long (1 : Int64)), .second, .unset]) rfl (XT.iconstV X2.here hx rfl (0 : Int32) (hb hby n4d1_7) (by decide) (XS.istore X2.here hx rfl (hb hby n4d1_8) rfl (l' := #[.val (.ref ar), .val (.ref b2), .val (.long (1 : Int64)), .second, .val (.int (0 : Int32))]) rfl (XS.iload X2.here hx rfl (hb hby n4d1_10) rfl (XS.aloadN X2.here hx rfl (hb hby n4d1_12) rfl rfl k))))))) ?_
  have vq4 := f3_1
  obtain ⟨cl4, Ar4, -, qs4, qn4, -, -⟩ := vq4
  refine Wp.back (U' := (T2.setTop (mkF m 14 #[.val (.ref ar), .val (.ref b2), .val (.long (1 : Int64)), .second, .val (.int (0 : Int32))] [(.int (4 : Int32)), (.int (0 : Int32))]))) (fun t k => X2.arraylength hx (by rw [e2]; exact Ar4.1) (State.isArrayOf_alike hZ.alike Ar4.2.1) (g := (mkF m 13 #[.val (.ref ar), .val (.ref b2), .val (.long (1 : Int64)), .second, .val (.int (0 : Int32))] [(.ref ar), (.int (0 : Int32))])) rfl rfl (hb hby n4d1_13) t (by rw [len_of qs4 qn4]; exact k)) ?_
  refine Wp.back (U' := (T2.setTop (mkF m 21 #[.val (.ref ar), .val (.ref b2), .val (.long (1 : Int64)), .second, .val (.int (0 : Int32))] [(.long (1 : Int64)), (.int (0 : Int32)), (.ref b2)]))) (fun t k => XS.icmpNo X2.here hx rfl (hb hby n4d1_14) rfl (tlt (by decide)).2.1 (XS.aloadN X2.here hx rfl (hb hby n4d1_17) rfl rfl (XS.iload X2.here hx rfl (hb hby n4d1_18) rfl (XS.lloadN X2.here hx rfl (hb hby n4d1_20) rfl k)))) ?_
  have vq5 := V2
  obtain ⟨cl5, Ar5, qa5, qs5, qn5, qh5, qg5⟩ := vq5
  have hin5 : ¬ ((0 : Int32) < 0 ∨ cl5.slots.size ≤ ((0 : Int32)).toNatClampNeg) := inb_of qs5 ⟨by decide, by decide⟩
  obtain ⟨T5, h5, X5, e5, W5, st5⟩ := stJ X2 hx hZ e2 Ar5 (j := (0 : Int32)) hin5 (g := (mkF m 21 #[.val (.ref ar), .val (.ref b2), .val (.long (1 : Int64)), .second, .val (.int (0 : Int32))] [(.long (1 : Int64)), (.int (0 : Int32)), (.ref b2)])) rfl rfl (hb hby n4d1_21)
  have V5 : Arv Z h5 b2 k2 .long (4 : Int32) [(.long (1 : Int64)), (.long (0 : Int64)), (.long (0 : Int64)), (.long (0 : Int64))] (.long (0 : Int64)) := Arv.set Ar5 qa5 qs5 qn5 qh5 qg5 rfl W5 0 rfl (Nat.le_of_ble_eq_true rfl)
  have f6_0 := Nat.le_trans f3_0 (Keep.of_wr W5).1
  have f6_1 := f3_1.other W5 ne_ar_b2
  have f6_2 := f3_2.wr W5 (Or.inr sz_b2)
  have N5 := Fr.snoc X5 N0 g_b2
  refine Wp.back (U' := (T5.setTop (mkF m 22 #[.val (.ref ar), .val (.ref b2), .val (.long (1 : Int64)), .second, .val (.int (0 : Int32))] []))) st5 ?_
  refine Wp.back (U' := (T5.setTop (mkF m 26 #[.val (.ref ar), .val (.ref b2), .val (.long (1 : Int64)), .second, .val (.int (0 : Int32))] [(.int (0 : Int32)), (.ref ar), (.long (1 : Int64))]))) (fun t k => XS.lloadN X5.here hx rfl (hb hby n4d1_22) rfl (XS.aloadN X5.here hx rfl (hb hby n4d1_23) rfl rfl (XS.iload X5.here hx rfl (hb hby n4d1_24) rfl k))) ?_
  have vq7 := f6_1
  obtain ⟨cl7, Ar7, qa7, qs7, qn7, qh7, qg7⟩ := vq7
  have hin7 : ¬ ((0 : Int32) < 0 ∨ cl7.slots.size ≤ ((0 : Int32)).toNatClampNeg) := inb_of qs7 ⟨by decide, by decide⟩
  have hat7 : cl7.slots[((0 : Int32)).toNatClampNeg]? = some (.int v0) := Has.at qh7 hin7 rfl
  refine Wp.back (U' := (T5.setTop (mkF m 27 #[.val (.ref ar), .val (.ref b2), .val (.long (1 : Int64)), .second, .val (.int (0 : Int32))] [(.int v0), (.long (1 : Int64))]))) (fun t k => X5.iaload hx (j := (0 : Int32)) (v := (.int v0)) (by rw [e5]; exact Ar7.1) (State.isArrayOf_alike hZ.alike Ar7.2.1) Ar7.2.2 hin7 hat7 (g := (mkF m 26 #[.val (.ref ar), .val (.ref b2), .val (.long (1 : Int64)), .second, .val (.int (0 : Int32))] [(.int (0 : Int32)), (.ref ar), (.long (1 : Int64))])) rfl rfl (hb hby n4d1_26) t k) ?_
  refine Wp.back (U' := (T5.setTop (mkF m 13 #[.val (.ref ar), .val (.ref b2), .val (.long ((1 : Int64) + (v0).toInt64)), .second, .val (.int (1 : Int32))] [(.ref ar), (.int (1 : Int32))]))) (fun t k => XS.i2l X5.here hx rfl (hb hby n4d1_27) rfl (XS.ladd X5.here hx rfl (hb hby n4d1_28) rfl (XS.lstoreN X5.here hx rfl (hb hby n4d1_29) rfl (l' := #[.val (.ref ar), .val (.ref b2), .val (.long ((1 : Int64) + (v0).toInt64)), .second, .val (.int (0 : Int32))]) rfl (XT.iincV X5.here hx rfl (1 : Int32) (hb hby n4d1_30) (by decide) rfl (l' := #[.val (.ref ar), .val (.ref b2), .val (.long ((1 : Int64) + (v0).toInt64)), .second, .val (.int (1 : Int32))]) rfl (XS.goto X5.here hx rfl (pc0 := 33) (pc' := 10) rfl (hb hby n4d1_33) (by decide) (by decide) (XS.iload X5.here hx rfl (hb hby n4d1_10) rfl (XS.aloadN X5.here hx rfl (hb hby n4d1_12) rfl rfl k))))))) ?_
  have vq8 := f6_1
  obtain ⟨cl8, Ar8, -, qs8, qn8, -, -⟩ := vq8
  refine Wp.back (U' := (T5.setTop (mkF m 14 #[.val (.ref ar), .val (.ref b2), .val (.long ((1 : Int64) + (v0).toInt64)), .second, .val (.int (1 : Int32))] [(.int (4 : Int32)), (.int (1 : Int32))]))) (fun t k => X5.arraylength hx (by rw [e5]; exact Ar8.1) (State.isArrayOf_alike hZ.alike Ar8.2.1) (g := (mkF m 13 #[.val (.ref ar), .val (.ref b2), .val (.long ((1 : Int64) + (v0).toInt64)), .second, .val (.int (1 : Int32))] [(.ref ar), (.int (1 : Int32))])) rfl rfl (hb hby n4d1_13) t (by rw [len_of qs8 qn8]; exact k)) ?_
  refine Wp.back (U' := (T5.setTop (mkF m 21 #[.val (.ref ar), .val (.ref b2), .val (.long ((1 : Int64) + (v0).toInt64)), .second, .val (.int (1 : Int32))] [(.long ((1 : Int64) + (v0).toInt64)), (.int (1 : Int32)), (.ref b2)]))) (fun t k => XS.icmpNo X5.here hx rfl (hb hby n4d1_14) rfl (tlt (by decide)).2.1 (XS.aloadN X5.here hx rfl (hb hby n4d1_17) rfl rfl (XS.iload X5.here hx rfl (hb hby n4d1_18) rfl (XS.lloadN X5.here hx rfl (hb hby n4d1_20) rfl k)))) ?_
  have vq9 := V5
  obtain ⟨cl9, Ar9, qa9, qs9, qn9, qh9, qg9⟩ := vq9
  have hin9 : ¬ ((1 : Int32) < 0 ∨ cl9.slots.size ≤ ((1 : Int32)).toNatClampNeg) := inb_of qs9 ⟨by decide, by decide⟩
  obtain ⟨T9, h9, X9, e9, W9, st9⟩ := stJ X5 hx hZ e5 Ar9 (j := (1 : Int32)) hin9 (g := (mkF m 21 #[.val (.ref ar), .val (.ref b2), .val (.long ((1 : Int64) + (v0).toInt64)), .second, .val (.int (1 : Int32))] [(.long ((1 : Int64) + (v0).toInt64)), (.int (1 : Int32)), (.ref b2)])) rfl rfl (hb hby n4d1_21)
  have V9 : Arv Z h9 b2 k2 .long (4 : Int32) [(.long (1 : Int64)), (.long ((1 : Int64) + (v0).toInt64)), (.long (0 : Int64)), (.long (0 : Int64))] (.long (0 : Int64)) := Arv.set Ar9 qa9 qs9 qn9 qh9 qg9 rfl W9 1 rfl (Nat.le_of_ble_eq_true rfl)
  have f10_0 := Nat.le_trans f6_0 (Keep.of_wr W9).1
  have f10_1 := f6_1.other W9 ne_ar_b2
  have f10_2 := f6_2.wr W9 (Or.inr sz_b2)
  have N9 := Fr.snoc X9 N5 g_b2
  refine Wp.back (U' := (T9.setTop (mkF m 22 #[.val (.ref ar), .val (.ref b2), .val (.long ((1 : Int64) + (v0).toInt64)), .second, .val (.int (1 : Int32))] []))) st9 ?_
  refine Wp.back (U' := (T9.setTop (mkF m 26 #[.val (.ref ar), .val (.ref b2), .val (.long ((1 : Int64) + (v0).toInt64)), .second, .val (.int (1 : Int32))] [(.int (1 : Int32)), (.ref ar), (.long ((1 : Int64) + (v0).toInt64))]))) (fun t k => XS.lloadN X9.here hx rfl (hb hby n4d1_22) rfl (XS.aloadN X9.here hx rfl (hb hby n4d1_23) rfl rfl (XS.iload X9.here hx rfl (hb hby n4d1_24) rfl k))) ?_
  have vq11 := f10_1
  obtain ⟨cl11, Ar11, qa11, qs11, qn11, qh11, qg11⟩ := vq11
  have hin11 : ¬ ((1 : Int32) < 0 ∨ cl11.slots.size ≤ ((1 : Int32)).toNatClampNeg) := inb_of qs11 ⟨by decide, by decide⟩
  have hat11 : cl11.slots[((1 : Int32)).toNatClampNeg]? = some (.int v1) := Has.at qh11 hin11 rfl
  refine Wp.back (U' := (T9.setTop (mkF m 27 #[.val (.ref ar), .val (.ref b2), .val (.long ((1 : Int64) + (v0).toInt64)), .second, .val (.int (1 : Int32))] [(.int v1), (.long ((1 : Int64) + (v0).toInt64))]))) (fun t k => X9.iaload hx (j := (1 : Int32)) (v := (.int v1)) (by rw [e9]; exact Ar11.1) (State.isArrayOf_alike hZ.alike Ar11.2.1) Ar11.2.2 hin11 hat11 (g := (mkF m 26 #[.val (.ref ar), .val (.ref b2), .val (.long ((1 : Int64) + (v0).toInt64)), .second, .val (.int (1 : Int32))] [(.int (1 : Int32)), (.ref ar), (.long ((1 : Int64) + (v0).toInt64))])) rfl rfl (hb hby n4d1_26) t k) ?_
  refine Wp.back (U' := (T9.setTop (mkF m 13 #[.val (.ref ar), .val (.ref b2), .val (.long (((1 : Int64) + (v0).toInt64) + (v1).toInt64)), .second, .val (.int (2 : Int32))] [(.ref ar), (.int (2 : Int32))]))) (fun t k => XS.i2l X9.here hx rfl (hb hby n4d1_27) rfl (XS.ladd X9.here hx rfl (hb hby n4d1_28) rfl (XS.lstoreN X9.here hx rfl (hb hby n4d1_29) rfl (l' := #[.val (.ref ar), .val (.ref b2), .val (.long (((1 : Int64) + (v0).toInt64) + (v1).toInt64)), .second, .val (.int (1 : Int32))]) rfl (XT.iincV X9.here hx rfl (1 : Int32) (hb hby n4d1_30) (by decide) rfl (l' := #[.val (.ref ar), .val (.ref b2), .val (.long (((1 : Int64) + (v0).toInt64) + (v1).toInt64)), .second, .val (.int (2 : Int32))]) rfl (XS.goto X9.here hx rfl (pc0 := 33) (pc' := 10) rfl (hb hby n4d1_33) (by decide) (by decide) (XS.iload X9.here hx rfl (hb hby n4d1_10) rfl (XS.aloadN X9.here hx rfl (hb hby n4d1_12) rfl rfl k))))))) ?_
  have vq12 := f10_1
  obtain ⟨cl12, Ar12, -, qs12, qn12, -, -⟩ := vq12
  refine Wp.back (U' := (T9.setTop (mkF m 14 #[.val (.ref ar), .val (.ref b2), .val (.long (((1 : Int64) + (v0).toInt64) + (v1).toInt64)), .second, .val (.int (2 : Int32))] [(.int (4 : Int32)), (.int (2 : Int32))]))) (fun t k => X9.arraylength hx (by rw [e9]; exact Ar12.1) (State.isArrayOf_alike hZ.alike Ar12.2.1) (g := (mkF m 13 #[.val (.ref ar), .val (.ref b2), .val (.long (((1 : Int64) + (v0).toInt64) + (v1).toInt64)), .second, .val (.int (2 : Int32))] [(.ref ar), (.int (2 : Int32))])) rfl rfl (hb hby n4d1_13) t (by rw [len_of qs12 qn12]; exact k)) ?_
  refine Wp.back (U' := (T9.setTop (mkF m 21 #[.val (.ref ar), .val (.ref b2), .val (.long (((1 : Int64) + (v0).toInt64) + (v1).toInt64)), .second, .val (.int (2 : Int32))] [(.long (((1 : Int64) + (v0).toInt64) + (v1).toInt64)), (.int (2 : Int32)), (.ref b2)]))) (fun t k => XS.icmpNo X9.here hx rfl (hb hby n4d1_14) rfl (tlt (by decide)).2.1 (XS.aloadN X9.here hx rfl (hb hby n4d1_17) rfl rfl (XS.iload X9.here hx rfl (hb hby n4d1_18) rfl (XS.lloadN X9.here hx rfl (hb hby n4d1_20) rfl k)))) ?_
  have vq13 := V9
  obtain ⟨cl13, Ar13, qa13, qs13, qn13, qh13, qg13⟩ := vq13
  have hin13 : ¬ ((2 : Int32) < 0 ∨ cl13.slots.size ≤ ((2 : Int32)).toNatClampNeg) := inb_of qs13 ⟨by decide, by decide⟩
  obtain ⟨T13, h13, X13, e13, W13, st13⟩ := stJ X9 hx hZ e9 Ar13 (j := (2 : Int32)) hin13 (g := (mkF m 21 #[.val (.ref ar), .val (.ref b2), .val (.long (((1 : Int64) + (v0).toInt64) + (v1).toInt64)), .second, .val (.int (2 : Int32))] [(.long (((1 : Int64) + (v0).toInt64) + (v1).toInt64)), (.int (2 : Int32)), (.ref b2)])) rfl rfl (hb hby n4d1_21)
  have V13 : Arv Z h13 b2 k2 .long (4 : Int32) [(.long (1 : Int64)), (.long ((1 : Int64) + (v0).toInt64)), (.long (((1 : Int64) + (v0).toInt64) + (v1).toInt64)), (.long (0 : Int64))] (.long (0 : Int64)) := Arv.set Ar13 qa13 qs13 qn13 qh13 qg13 rfl W13 2 rfl (Nat.le_of_ble_eq_true rfl)
  have f14_0 := Nat.le_trans f10_0 (Keep.of_wr W13).1
  have f14_1 := f10_1.other W13 ne_ar_b2
  have f14_2 := f10_2.wr W13 (Or.inr sz_b2)
  have N13 := Fr.snoc X13 N9 g_b2
  refine Wp.back (U' := (T13.setTop (mkF m 22 #[.val (.ref ar), .val (.ref b2), .val (.long (((1 : Int64) + (v0).toInt64) + (v1).toInt64)), .second, .val (.int (2 : Int32))] []))) st13 ?_
  refine Wp.back (U' := (T13.setTop (mkF m 26 #[.val (.ref ar), .val (.ref b2), .val (.long (((1 : Int64) + (v0).toInt64) + (v1).toInt64)), .second, .val (.int (2 : Int32))] [(.int (2 : Int32)), (.ref ar), (.long (((1 : Int64) + (v0).toInt64) + (v1).toInt64))]))) (fun t k => XS.lloadN X13.here hx rfl (hb hby n4d1_22) rfl (XS.aloadN X13.here hx rfl (hb hby n4d1_23) rfl rfl (XS.iload X13.here hx rfl (hb hby n4d1_24) rfl k))) ?_
  have vq15 := f14_1
  obtain ⟨cl15, Ar15, qa15, qs15, qn15, qh15, qg15⟩ := vq15
  have hin15 : ¬ ((2 : Int32) < 0 ∨ cl15.slots.size ≤ ((2 : Int32)).toNatClampNeg) := inb_of qs15 ⟨by decide, by decide⟩
  have hat15 : cl15.slots[((2 : Int32)).toNatClampNeg]? = some (.int v2) := Has.at qh15 hin15 rfl
  refine Wp.back (U' := (T13.setTop (mkF m 27 #[.val (.ref ar), .val (.ref b2), .val (.long (((1 : Int64) + (v0).toInt64) + (v1).toInt64)), .second, .val (.int (2 : Int32))] [(.int v2), (.long (((1 : Int64) + (v0).toInt64) + (v1).toInt64))]))) (fun t k => X13.iaload hx (j := (2 : Int32)) (v := (.int v2)) (by rw [e13]; exact Ar15.1) (State.isArrayOf_alike hZ.alike Ar15.2.1) Ar15.2.2 hin15 hat15 (g := (mkF m 26 #[.val (.ref ar), .val (.ref b2), .val (.long (((1 : Int64) + (v0).toInt64) + (v1).toInt64)), .second, .val (.int (2 : Int32))] [(.int (2 : Int32)), (.ref ar), (.long (((1 : Int64) + (v0).toInt64) + (v1).toInt64))])) rfl rfl (hb hby n4d1_26) t k) ?_
  refine Wp.back (U' := (T13.setTop (mkF m 13 #[.val (.ref ar), .val (.ref b2), .val (.long ((((1 : Int64) + (v0).toInt64) + (v1).toInt64) + (v2).toInt64)), .second, .val (.int (3 : Int32))] [(.ref ar), (.int (3 : Int32))]))) (fun t k => XS.i2l X13.here hx rfl (hb hby n4d1_27) rfl (XS.ladd X13.here hx rfl (hb hby n4d1_28) rfl (XS.lstoreN X13.here hx rfl (hb hby n4d1_29) rfl (l' := #[.val (.ref ar), .val (.ref b2), .val (.long ((((1 : Int64) + (v0).toInt64) + (v1).toInt64) + (v2).toInt64)), .second, .val (.int (2 : Int32))]) rfl (XT.iincV X13.here hx rfl (1 : Int32) (hb hby n4d1_30) (by decide) rfl (l' := #[.val (.ref ar), .val (.ref b2), .val (.long ((((1 : Int64) + (v0).toInt64) + (v1).toInt64) + (v2).toInt64)), .second, .val (.int (3 : Int32))]) rfl (XS.goto X13.here hx rfl (pc0 := 33) (pc' := 10) rfl (hb hby n4d1_33) (by decide) (by decide) (XS.iload X13.here hx rfl (hb hby n4d1_10) rfl (XS.aloadN X13.here hx rfl (hb hby n4d1_12) rfl rfl k))))))) ?_
  have vq16 := f14_1
  obtain ⟨cl16, Ar16, -, qs16, qn16, -, -⟩ := vq16
  refine Wp.back (U' := (T13.setTop (mkF m 14 #[.val (.ref ar), .val (.ref b2), .val (.long ((((1 : Int64) + (v0).toInt64) + (v1).toInt64) + (v2).toInt64)), .second, .val (.int (3 : Int32))] [(.int (4 : Int32)), (.int (3 : Int32))]))) (fun t k => X13.arraylength hx (by rw [e13]; exact Ar16.1) (State.isArrayOf_alike hZ.alike Ar16.2.1) (g := (mkF m 13 #[.val (.ref ar), .val (.ref b2), .val (.long ((((1 : Int64) + (v0).toInt64) + (v1).toInt64) + (v2).toInt64)), .second, .val (.int (3 : Int32))] [(.ref ar), (.int (3 : Int32))])) rfl rfl (hb hby n4d1_13) t (by rw [len_of qs16 qn16]; exact k)) ?_
  refine Wp.back (U' := (T13.setTop (mkF m 21 #[.val (.ref ar), .val (.ref b2), .val (.long ((((1 : Int64) + (v0).toInt64) + (v1).toInt64) + (v2).toInt64)), .second, .val (.int (3 : Int32))] [(.long ((((1 : Int64) + (v0).toInt64) + (v1).toInt64) + (v2).toInt64)), (.int (3 : Int32)), (.ref b2)]))) (fun t k => XS.icmpNo X13.here hx rfl (hb hby n4d1_14) rfl (tlt (by decide)).2.1 (XS.aloadN X13.here hx rfl (hb hby n4d1_17) rfl rfl (XS.iload X13.here hx rfl (hb hby n4d1_18) rfl (XS.lloadN X13.here hx rfl (hb hby n4d1_20) rfl k)))) ?_
  have vq17 := V13
  obtain ⟨cl17, Ar17, qa17, qs17, qn17, qh17, qg17⟩ := vq17
  have hin17 : ¬ ((3 : Int32) < 0 ∨ cl17.slots.size ≤ ((3 : Int32)).toNatClampNeg) := inb_of qs17 ⟨by decide, by decide⟩
  obtain ⟨T17, h17, X17, e17, W17, st17⟩ := stJ X13 hx hZ e13 Ar17 (j := (3 : Int32)) hin17 (g := (mkF m 21 #[.val (.ref ar), .val (.ref b2), .val (.long ((((1 : Int64) + (v0).toInt64) + (v1).toInt64) + (v2).toInt64)), .second, .val (.int (3 : Int32))] [(.long ((((1 : Int64) + (v0).toInt64) + (v1).toInt64) + (v2).toInt64)), (.int (3 : Int32)), (.ref b2)])) rfl rfl (hb hby n4d1_21)
  have V17 : Arv Z h17 b2 k2 .long (4 : Int32) [(.long (1 : Int64)), (.long ((1 : Int64) + (v0).toInt64)), (.long (((1 : Int64) + (v0).toInt64) + (v1).toInt64)), (.long ((((1 : Int64) + (v0).toInt64) + (v1).toInt64) + (v2).toInt64))] (.long (0 : Int64)) := Arv.set Ar17 qa17 qs17 qn17 qh17 qg17 rfl W17 3 rfl (Nat.le_of_ble_eq_true rfl)
  have f18_0 := Nat.le_trans f14_0 (Keep.of_wr W17).1
  have f18_1 := f14_1.other W17 ne_ar_b2
  have f18_2 := f14_2.wr W17 (Or.inr sz_b2)
  have N17 := Fr.snoc X17 N13 g_b2
  refine Wp.back (U' := (T17.setTop (mkF m 22 #[.val (.ref ar), .val (.ref b2), .val (.long ((((1 : Int64) + (v0).toInt64) + (v1).toInt64) + (v2).toInt64)), .second, .val (.int (3 : Int32))] []))) st17 ?_
  refine Wp.back (U' := (T17.setTop (mkF m 26 #[.val (.ref ar), .val (.ref b2), .val (.long ((((1 : Int64) + (v0).toInt64) + (v1).toInt64) + (v2).toInt64)), .second, .val (.int (3 : Int32))] [(.int (3 : Int32)), (.ref ar), (.long ((((1 : Int64) + (v0).toInt64) + (v1).toInt64) + (v2).toInt64))]))) (fun t k => XS.lloadN X17.here hx rfl (hb hby n4d1_22) rfl (XS.aloadN X17.here hx rfl (hb hby n4d1_23) rfl rfl (XS.iload X17.here hx rfl (hb hby n4d1_24) rfl k))) ?_
  have vq19 := f18_1
  obtain ⟨cl19, Ar19, qa19, qs19, qn19, qh19, qg19⟩ := vq19
  have hin19 : ¬ ((3 : Int32) < 0 ∨ cl19.slots.size ≤ ((3 : Int32)).toNatClampNeg) := inb_of qs19 ⟨by decide, by decide⟩
  have hat19 : cl19.slots[((3 : Int32)).toNatClampNeg]? = some (.int v3) := Has.at qh19 hin19 rfl
  refine Wp.back (U' := (T17.setTop (mkF m 27 #[.val (.ref ar), .val (.ref b2), .val (.long ((((1 : Int64) + (v0).toInt64) + (v1).toInt64) + (v2).toInt64)), .second, .val (.int (3 : Int32))] [(.int v3), (.long ((((1 : Int64) + (v0).toInt64) + (v1).toInt64) + (v2).toInt64))]))) (fun t k => X17.iaload hx (j := (3 : Int32)) (v := (.int v3)) (by rw [e17]; exact Ar19.1) (State.isArrayOf_alike hZ.alike Ar19.2.1) Ar19.2.2 hin19 hat19 (g := (mkF m 26 #[.val (.ref ar), .val (.ref b2), .val (.long ((((1 : Int64) + (v0).toInt64) + (v1).toInt64) + (v2).toInt64)), .second, .val (.int (3 : Int32))] [(.int (3 : Int32)), (.ref ar), (.long ((((1 : Int64) + (v0).toInt64) + (v1).toInt64) + (v2).toInt64))])) rfl rfl (hb hby n4d1_26) t k) ?_
  refine Wp.back (U' := (T17.setTop (mkF m 13 #[.val (.ref ar), .val (.ref b2), .val (.long (((((1 : Int64) + (v0).toInt64) + (v1).toInt64) + (v2).toInt64) + (v3).toInt64)), .second, .val (.int (4 : Int32))] [(.ref ar), (.int (4 : Int32))]))) (fun t k => XS.i2l X17.here hx rfl (hb hby n4d1_27) rfl (XS.ladd X17.here hx rfl (hb hby n4d1_28) rfl (XS.lstoreN X17.here hx rfl (hb hby n4d1_29) rfl (l' := #[.val (.ref ar), .val (.ref b2), .val (.long (((((1 : Int64) + (v0).toInt64) + (v1).toInt64) + (v2).toInt64) + (v3).toInt64)), .second, .val (.int (3 : Int32))]) rfl (XT.iincV X17.here hx rfl (1 : Int32) (hb hby n4d1_30) (by decide) rfl (l' := #[.val (.ref ar), .val (.ref b2), .val (.long (((((1 : Int64) + (v0).toInt64) + (v1).toInt64) + (v2).toInt64) + (v3).toInt64)), .second, .val (.int (4 : Int32))]) rfl (XS.goto X17.here hx rfl (pc0 := 33) (pc' := 10) rfl (hb hby n4d1_33) (by decide) (by decide) (XS.iload X17.here hx rfl (hb hby n4d1_10) rfl (XS.aloadN X17.here hx rfl (hb hby n4d1_12) rfl rfl k))))))) ?_
  have vq20 := f18_1
  obtain ⟨cl20, Ar20, -, qs20, qn20, -, -⟩ := vq20
  refine Wp.back (U' := (T17.setTop (mkF m 14 #[.val (.ref ar), .val (.ref b2), .val (.long (((((1 : Int64) + (v0).toInt64) + (v1).toInt64) + (v2).toInt64) + (v3).toInt64)), .second, .val (.int (4 : Int32))] [(.int (4 : Int32)), (.int (4 : Int32))]))) (fun t k => X17.arraylength hx (by rw [e17]; exact Ar20.1) (State.isArrayOf_alike hZ.alike Ar20.2.1) (g := (mkF m 13 #[.val (.ref ar), .val (.ref b2), .val (.long (((((1 : Int64) + (v0).toInt64) + (v1).toInt64) + (v2).toInt64) + (v3).toInt64)), .second, .val (.int (4 : Int32))] [(.ref ar), (.int (4 : Int32))])) rfl rfl (hb hby n4d1_13) t (by rw [len_of qs20 qn20]; exact k)) ?_
  refine Wp.back (U' := (T17.setTop (mkF m 37 #[.val (.ref ar), .val (.ref b2), .val (.long (((((1 : Int64) + (v0).toInt64) + (v1).toInt64) + (v2).toInt64) + (v3).toInt64)), .second, .val (.int (4 : Int32))] [(.ref b2)]))) (fun t k => XS.icmpYes X17.here hx rfl (pc0 := 14) (pc' := 36) rfl (hb hby n4d1_14) rfl (flt (by decide)).2.1 (by decide) (by decide) (XS.aloadN X17.here hx rfl (hb hby n4d1_36) rfl rfl k)) ?_
  obtain ⟨fs, hr, hrun, hended, hW, hsame⟩ := X17.leave (v := (some (.ref b2))) (fun h => by rw [hret] at h; cases h)
  refine Wp.done (retOut X17 hx hret rfl (Or.inr (Or.inr (Or.inr (Or.inr ⟨rfl, rfl, rfl⟩)))) (hb hby n4d1_37) hr) hrun hended ⟨_, _, rfl, ?_, ⟨_, rfl⟩, hW, hsame.mono (by decide) (by decide)⟩
  show Q_ds4 Z ar ka v0 v1 v2 v3 h0 n0 _ T17.heap _
  rw [e17]
  exact ⟨b2, k2, rfl, N17, f18_2, sz_b2, V17⟩
theorem own_n (p0 : Int32) : ((p0 &&& (2147483647 : Int32)) % (5 : Int32)) = (0 : Int32) ∨ ((p0 &&& (2147483647 : Int32)) % (5 : Int32)) = (1 : Int32) ∨ ((p0 &&& (2147483647 : Int32)) % (5 : Int32)) = (2 : Int32) ∨ ((p0 &&& (2147483647 : Int32)) % (5 : Int32)) = (3 : Int32) ∨ ((p0 &&& (2147483647 : Int32)) % (5 : Int32)) = (4 : Int32) := by
  have h1 := c_mask p0 2147483647 31 (by decide) (by decide)
  have h2 := (c_irem (p0 &&& 2147483647) 5 5 (by decide)).1 (by omega)
  have e0 : (0 : Int32).toInt = 0 := by decide
  have e1 : (1 : Int32).toInt = 1 := by decide
  have e2 : (2 : Int32).toInt = 2 := by decide
  have e3 : (3 : Int32).toInt = 3 := by decide
  have e4 : (4 : Int32).toInt = 4 := by decide
  simp only [← Int32.toInt_inj, e0, e1, e2, e3, e4]
  omega
theorem pd0_0 : parseMethodDescriptor "([I)[J" = some ⟨[(.array .int)], some (.array .long)⟩ := by decide +kernel
theorem pn0 : plainName "com/example/mill_river/millriver/index/IndexDocumentStartsPinLaw" = true := by first | (simp [plainName, overriddenIn]; done) | decide +kernel
theorem ef0 (m : MethodId) (x0 : Int32) (x1 : Int32) (x2 : Int32) (x3 : Int32) (x4 : Int32) : entryFrame m #[(.int x0), (.int x1), (.int x2), (.int x3), (.int x4)] maxLocals = mkF m 0 #[.val (.int x0), .val (.int x1), .val (.int x2), .val (.int x3), .val (.int x4), .unset, .unset, .unset, .unset, .unset, .unset, .unset, .unset, .unset, .unset, .unset, .unset] [] := by first | (simp [entryFrame, mkF, argsToLocals, Value.category, maxLocals]; done) | rfl
set_option maxRecDepth 65536 in
set_option maxHeartbeats 40000000 in
theorem rm_law (l : Launch) (Z : State) (a0 : Array Value) (hw : ∀ d ∈ tables_1, d.before a0 Z = true) (ws : List Jvm.Cond) (p0 : Int32) (p1 : Int32) (p2 : Int32) (p3 : Int32) (p4 : Int32)  (h0 : Heap) (n0 : Nat) (Z0 : n0 ≤ h0.size)  :
    MetFree l x (head1 (Jvm.Cond.code x code maxLocals ret :: ws) room_1) (fun a U => a = #[(.int p0), (.int p1), (.int p2), (.int p3), (.int p4)] ∧ Z.Warmed39 U.vm ∧ U.heap = h0) (fun _ _ _ _ _ => True) (fun _ U o U' => ∃ v L, o = .returned v ∧ QL n0 v U'.heap L ∧ FrameEnd U o U' L 16 128) := by
  refine MetFree.of_bodySF (plainFor_of_name pn0) hisR ?_
  intro p e s m args below meth c s₁ Bd hml0 hP hK
  obtain ⟨rfl, hZ, hh⟩ := hP
  have hx := Bd.exec
  have hby := Bd.bytes
  have hret := Bd.returns
  have hlk := Bd.notSynchronized
  have hml : c.maxLocals = 17 := hml0
  have hown : s.vm.findClass "com/example/mill_river/millriver/index/IndexDocumentStartsPinLaw" = some m.cls := findClass_of_methodNamed Bd.named
  have hnm := (name_of_methodNamed Bd.named Bd.method).1
  have X0 : Stand p l e room_1 s m #[(.int p0), (.int p1), (.int p2), (.int p3), (.int p4)] below meth c s₁ [] 0 0 := Stand.of_body Bd
  have e0 : s₁.heap = h0 := by rw [← hh, Bd.state]; rfl
  have N0 := Fr.nil n0
  show Wp p e below (fun o s₂ => ∃ v L, o = .returned v ∧ QL n0 v s₂.heap L ∧ FrameEnd s o s₂ L 16 128) _
  refine Wp.back (U' := (s₁.setTop (mkF m 0 #[.val (.int p0), .val (.int p1), .val (.int p2), .val (.int p3), .val (.int p4), .unset, .unset, .unset, .unset, .unset, .unset, .unset, .unset, .unset, .unset, .unset, .unset] []))) (fun t k => castTop (ef0 m p0 p1 p2 p3 p4) k) ?_
  refine Wp.back (U' := (s₁.setTop (mkF m 8 #[.val (.int p0), .val (.int p1), .val (.int p2), .val (.int p3), .val (.int p4), .val (.int ((p0 &&& (2147483647 : Int32)) % (5 : Int32))), .unset, .unset, .unset, .unset, .unset, .unset, .unset, .unset, .unset, .unset, .unset] []))) (fun t k => XS.iloadN X0.here hx rfl (hb hby at_0) rfl (Jvm.Stand.ldcI X0 hx hown (mvT hZ (hw _ (List.mem_of_getElem? (i := 0) rfl))) rfl (hb hby at_1) (XS.iand X0.here hx rfl (hb hby at_3) rfl (XT.iconstV X0.here hx rfl (5 : Int32) (hb hby at_4) (by decide) (iremM X0 hx rfl (hb hby at_5) rfl (by decide) (XS.istore X0.here hx rfl (hb hby at_6) rfl (l' := #[.val (.int p0), .val (.int p1), .val (.int p2), .val (.int p3), .val (.int p4), .val (.int ((p0 &&& (2147483647 : Int32)) % (5 : Int32))), .unset, .unset, .unset, .unset, .unset, .unset, .unset, .unset, .unset, .unset, .unset]) rfl k)))))) ?_
  rcases own_n p0 with hk1 | hk2 | hk3 | hk4 | hk5
  · rw [hk1]
    refine Wp.back (U' := (s₁.setTop (mkF m 10 #[.val (.int p0), .val (.int p1), .val (.int p2), .val (.int p3), .val (.int p4), .val (.int (0 : Int32)), .unset, .unset, .unset, .unset, .unset, .unset, .unset, .unset, .unset, .unset, .unset] [(.int (0 : Int32))]))) (fun t k => XS.iload X0.here hx rfl (hb hby at_8) rfl k) ?_
    obtain ⟨T6, h6, k6, X6, e6, E6, A6, st6⟩ := newP X0 hx hZ (hw _ (List.mem_of_getElem? (i := 1) rfl)) e0 (g := (mkF m 10 #[.val (.int p0), .val (.int p1), .val (.int p2), .val (.int p3), .val (.int p4), .val (.int (0 : Int32)), .unset, .unset, .unset, .unset, .unset, .unset, .unset, .unset, .unset, .unset, .unset] [(.int (0 : Int32))])) rfl (hb hby at_10) rfl (by decide) (cap := 0) (by decide) (by decide) (by decide) (by decide)
    obtain ⟨b6, g6⟩ : ∃ z, z = h0.size := ⟨_, rfl⟩
    rw [← g6] at A6 st6
    have g_b6 : n0 ≤ b6 := Nat.le_trans Z0 (Nat.le_of_eq g6.symm)
    have f7_0 := Nat.le_trans Z0 E6.1
    have V6 : Arv Z h6 b6 k6 .int (0 : Int32) [] (.int (0 : Int32)) := (Arv.new A6 (by decide)).pad (pad_rep [] (.int (0 : Int32)) 0)
    refine Wp.back (U' := (T6.setTop (mkF m 12 #[.val (.int p0), .val (.int p1), .val (.int p2), .val (.int p3), .val (.int p4), .val (.int (0 : Int32)), .unset, .unset, .unset, .unset, .unset, .unset, .unset, .unset, .unset, .unset, .unset] [(.ref b6)]))) st6 ?_
    refine Wp.back (U' := (T6.setTop (mkF m 58 #[.val (.int p0), .val (.int p1), .val (.int p2), .val (.int p3), .val (.int p4), .val (.int (0 : Int32)), .val (.ref b6), .unset, .unset, .unset, .unset, .unset, .unset, .unset, .unset, .unset, .unset] []))) (fun t k => XS.astore X6.here hx rfl (hb hby at_12) rfl rfl (l' := #[.val (.int p0), .val (.int p1), .val (.int p2), .val (.int p3), .val (.int p4), .val (.int (0 : Int32)), .val (.ref b6), .unset, .unset, .unset, .unset, .unset, .unset, .unset, .unset, .unset, .unset]) rfl (XS.iload X6.here hx rfl (hb hby at_14) rfl (XS.ifYes X6.here hx rfl (pc0 := 16) (pc' := 24) rfl (hb hby at_16) rfl ((if0 _ _).trans (flt (by decide)).2.2.2) (by decide) (by decide) (XS.iload X6.here hx rfl (hb hby at_24) rfl (XT.iconstV X6.here hx rfl (1 : Int32) (hb hby at_26) (by decide) (XS.icmpYes X6.here hx rfl (pc0 := 27) (pc' := 35) rfl (hb hby at_27) rfl (flt (by decide)).2.2.2 (by decide) (by decide) (XS.iload X6.here hx rfl (hb hby at_35) rfl (XT.iconstV X6.here hx rfl (2 : Int32) (hb hby at_37) (by decide) (XS.icmpYes X6.here hx rfl (pc0 := 38) (pc' := 46) rfl (hb hby at_38) rfl (flt (by decide)).2.2.2 (by decide) (by decide) (XS.iload X6.here hx rfl (hb hby at_46) rfl (XT.iconstV X6.here hx rfl (3 : Int32) (hb hby at_48) (by decide) (XS.icmpYes X6.here hx rfl (pc0 := 49) (pc' := 58) rfl (hb hby at_49) rfl (flt (by decide)).2.2.2 (by decide) (by decide) k)))))))))))) ?_
    refine Wp.back (U' := (T6.setTop (mkF m 60 #[.val (.int p0), .val (.int p1), .val (.int p2), .val (.int p3), .val (.int p4), .val (.int (0 : Int32)), .val (.ref b6), .unset, .unset, .unset, .unset, .unset, .unset, .unset, .unset, .unset, .unset] [(.ref b6)]))) (fun t k => XS.aload X6.here hx rfl (hb hby at_58) rfl rfl k) ?_
    obtain ⟨_, _, ⟨T8, L8, k8, n8⟩, -, X8, ⟨Lc8, hQ8, l8, y8, z8⟩, st8⟩ := Jvm.LawKit.callS X6 hx (y := (⟨"com/example/mill_river/millriver/index/Index", "documentStarts", "([I)[J"⟩ : MethodName)) hown (mvT hZ (hw _ (List.mem_of_getElem? (i := 2) rfl))) (mvT hZ (hw _ (List.mem_of_getElem? (i := 3) rfl))) (mvT hZ (hw _ (List.mem_of_getElem? (i := 4) rfl))) (mvT hZ (hw _ (List.mem_of_getElem? (i := 5) rfl))) (by decide) (backOf (W := 0) (rm_ds0 l Z a0 hw [] b6 k6 h6 n0 f7_0 V6) hZ (hw _ (List.mem_of_getElem? (i := 5) rfl)) (hw _ (List.mem_of_getElem? (i := 4) rfl)) (by decide) (by decide)) (g := (mkF m 60 #[.val (.int p0), .val (.int p1), .val (.int p2), .val (.int p3), .val (.int p4), .val (.int (0 : Int32)), .val (.ref b6), .unset, .unset, .unset, .unset, .unset, .unset, .unset, .unset, .unset, .unset] [(.ref b6)])) rfl (by rw [hml]; rfl) (argsL := [(.ref b6)]) (rest := []) (lenOf pd0_0 rfl) rfl (by show 2 * 0 + _ ≤ _; exact Nat.le_of_eq rfl) (hb hby at_60) (fun _ _ => ⟨rfl, e6, (by decide : 1 + 1 ≤ _), (by decide : 0 + 0 ≤ _)⟩)
    dsimp only [Pt.U, Pt.locs, Pt.cells, Pt.slots] at X8 l8 y8 z8 st8 hQ8
    subst l8 y8 z8
    obtain ⟨b8_0, k8_0, rfl, N8q, K8, sf8_0, o8_0⟩ := hQ8
    have ne_b6_b8_0 : b6 ≠ b8_0 := Nat.ne_of_lt (Nat.lt_of_lt_of_le V6.lt sf8_0)
    have g_b8_0 : n0 ≤ b8_0 := Nat.le_trans f7_0 sf8_0
    have f9_0 := Nat.le_trans f7_0 K8.1
    have f9_1 := V6.keep K8 nin0
    have N8 := Fr.app N0 N8q
    refine Wp.back (U' := (T8.setTop (mkF m 63 #[.val (.int p0), .val (.int p1), .val (.int p2), .val (.int p3), .val (.int p4), .val (.int (0 : Int32)), .val (.ref b6), .unset, .unset, .unset, .unset, .unset, .unset, .unset, .unset, .unset, .unset] [(.ref b8_0)]))) st8 ?_
    refine Wp.back (U' := (T8.setTop (mkF m 72 #[.val (.int p0), .val (.int p1), .val (.int p2), .val (.int p3), .val (.int p4), .val (.int (0 : Int32)), .val (.ref b6), .val (.ref b8_0), .unset, .unset, .unset, .unset, .unset, .unset, .unset, .unset, .unset] [(.ref b8_0)]))) (fun t k => XS.astore X8.here hx rfl (hb hby at_63) rfl rfl (l' := #[.val (.int p0), .val (.int p1), .val (.int p2), .val (.int p3), .val (.int p4), .val (.int (0 : Int32)), .val (.ref b6), .val (.ref b8_0), .unset, .unset, .unset, .unset, .unset, .unset, .unset, .unset, .unset]) rfl (XS.aload X8.here hx rfl (hb hby at_65) rfl rfl (XS.ifnullNo X8.here hx rfl (hb hby at_67) rfl (XS.aload X8.here hx rfl (hb hby at_70) rfl rfl k)))) ?_
    have vq10 := o8_0
    obtain ⟨cl10, Ar10, -, qs10, qn10, -, -⟩ := vq10
    refine Wp.back (U' := (T8.setTop (mkF m 73 #[.val (.int p0), .val (.int p1), .val (.int p2), .val (.int p3), .val (.int p4), .val (.int (0 : Int32)), .val (.ref b6), .val (.ref b8_0), .unset, .unset, .unset, .unset, .unset, .unset, .unset, .unset, .unset] [(.int (0 : Int32))]))) (fun t k => X8.arraylength hx Ar10.1 (State.isArrayOf_alike hZ.alike Ar10.2.1) (g := (mkF m 72 #[.val (.int p0), .val (.int p1), .val (.int p2), .val (.int p3), .val (.int p4), .val (.int (0 : Int32)), .val (.ref b6), .val (.ref b8_0), .unset, .unset, .unset, .unset, .unset, .unset, .unset, .unset, .unset] [(.ref b8_0)])) rfl rfl (hb hby at_72) t (by rw [len_of qs10 qn10]; exact k)) ?_
    refine Wp.back (U' := (T8.setTop (mkF m 92 #[.val (.int p0), .val (.int p1), .val (.int p2), .val (.int p3), .val (.int p4), .val (.int (0 : Int32)), .val (.ref b6), .val (.ref b8_0), .val (.long (1 : Int64)), .second, .val (.long ((1 : Int64) + (p1).toInt64)), .second, .unset, .unset, .unset, .unset, .unset] [(.long (p1).toInt64), (.long (1 : Int64))]))) (fun t k => XS.iload X8.here hx rfl (hb hby at_73) rfl (XS.icmpYes X8.here hx rfl (pc0 := 75) (pc' := 80) rfl (hb hby at_75) rfl (teq (by decide)).1 (by decide) (by decide) (XT.lconstV X8.here hx rfl (1 : Int64) (hb hby at_80) (by decide) (XS.lstore X8.here hx rfl (hb hby at_81) rfl (l' := #[.val (.int p0), .val (.int p1), .val (.int p2), .val (.int p3), .val (.int p4), .val (.int (0 : Int32)), .val (.ref b6), .val (.ref b8_0), .val (.long (1 : Int64)), .second, .unset, .unset, .unset, .unset, .unset, .unset, .unset]) rfl (XT.lconstV X8.here hx rfl (1 : Int64) (hb hby at_83) (by decide) (XS.iloadN X8.here hx rfl (hb hby at_84) rfl (XS.i2l X8.here hx rfl (hb hby at_85) rfl (XS.ladd X8.here hx rfl (hb hby at_86) rfl (XS.lstore X8.here hx rfl (hb hby at_87) rfl (l' := #[.val (.int p0), .val (.int p1), .val (.int p2), .val (.int p3), .val (.int p4), .val (.int (0 : Int32)), .val (.ref b6), .val (.ref b8_0), .val (.long (1 : Int64)), .second, .val (.long ((1 : Int64) + (p1).toInt64)), .second, .unset, .unset, .unset, .unset, .unset]) rfl (XT.lconstV X8.here hx rfl (1 : Int64) (hb hby at_89) (by decide) (XS.iloadN X8.here hx rfl (hb hby at_90) rfl (XS.i2l X8.here hx rfl (hb hby at_91) rfl k)))))))))))) ?_
    refine Wp.back (U' := (T8.setTop (mkF m 105 #[.val (.int p0), .val (.int p1), .val (.int p2), .val (.int p3), .val (.int p4), .val (.int (0 : Int32)), .val (.ref b6), .val (.ref b8_0), .val (.long (1 : Int64)), .second, .val (.long ((1 : Int64) + (p1).toInt64)), .second, .val (.long (((1 : Int64) + (p1).toInt64) + (p2).toInt64)), .second, .unset, .unset, .unset] [(.long (((1 : Int64) + (p1).toInt64) + (p2).toInt64))]))) (fun t k => XS.ladd X8.here hx rfl (hb hby at_92) rfl (XS.iloadN X8.here hx rfl (hb hby at_93) rfl (XS.i2l X8.here hx rfl (hb hby at_94) rfl (XS.ladd X8.here hx rfl (hb hby at_95) rfl (XS.lstore X8.here hx rfl (hb hby at_96) rfl (l' := #[.val (.int p0), .val (.int p1), .val (.int p2), .val (.int p3), .val (.int p4), .val (.int (0 : Int32)), .val (.ref b6), .val (.ref b8_0), .val (.long (1 : Int64)), .second, .val (.long ((1 : Int64) + (p1).toInt64)), .second, .val (.long (((1 : Int64) + (p1).toInt64) + (p2).toInt64)), .second, .unset, .unset, .unset]) rfl (XT.lconstV X8.here hx rfl (1 : Int64) (hb hby at_98) (by decide) (XS.iloadN X8.here hx rfl (hb hby at_99) rfl (XS.i2l X8.here hx rfl (hb hby at_100) rfl (XS.ladd X8.here hx rfl (hb hby at_101) rfl (XS.iloadN X8.here hx rfl (hb hby at_102) rfl (XS.i2l X8.here hx rfl (hb hby at_103) rfl (XS.ladd X8.here hx rfl (hb hby at_104) rfl k)))))))))))) ?_
    refine Wp.back (U' := (T8.setTop (mkF m 186 #[.val (.int p0), .val (.int p1), .val (.int p2), .val (.int p3), .val (.int p4), .val (.int (0 : Int32)), .val (.ref b6), .val (.ref b8_0), .val (.long (1 : Int64)), .second, .val (.long ((1 : Int64) + (p1).toInt64)), .second, .val (.long (((1 : Int64) + (p1).toInt64) + (p2).toInt64)), .second, .val (.long ((((1 : Int64) + (p1).toInt64) + (p2).toInt64) + (p3).toInt64)), .second, .val (.int (1 : Int32))] [(.int (0 : Int32))]))) (fun t k => XS.iloadN X8.here hx rfl (hb hby at_105) rfl (XS.i2l X8.here hx rfl (hb hby at_106) rfl (XS.ladd X8.here hx rfl (hb hby at_107) rfl (XS.lstore X8.here hx rfl (hb hby at_108) rfl (l' := #[.val (.int p0), .val (.int p1), .val (.int p2), .val (.int p3), .val (.int p4), .val (.int (0 : Int32)), .val (.ref b6), .val (.ref b8_0), .val (.long (1 : Int64)), .second, .val (.long ((1 : Int64) + (p1).toInt64)), .second, .val (.long (((1 : Int64) + (p1).toInt64) + (p2).toInt64)), .second, .val (.long ((((1 : Int64) + (p1).toInt64) + (p2).toInt64) + (p3).toInt64)), .second, .unset]) rfl (XT.iconstV X8.here hx rfl (1 : Int32) (hb hby at_110) (by decide) (XS.istore X8.here hx rfl (hb hby at_111) rfl (l' := #[.val (.int p0), .val (.int p1), .val (.int p2), .val (.int p3), .val (.int p4), .val (.int (0 : Int32)), .val (.ref b6), .val (.ref b8_0), .val (.long (1 : Int64)), .second, .val (.long ((1 : Int64) + (p1).toInt64)), .second, .val (.long (((1 : Int64) + (p1).toInt64) + (p2).toInt64)), .second, .val (.long ((((1 : Int64) + (p1).toInt64) + (p2).toInt64) + (p3).toInt64)), .second, .val (.int (1 : Int32))]) rfl (XS.iload X8.here hx rfl (hb hby at_113) rfl (XS.ifYes X8.here hx rfl (pc0 := 115) (pc' := 148) rfl (hb hby at_115) rfl ((if0 _ _).trans (flt (by decide)).2.2.2) (by decide) (by decide) (XS.iload X8.here hx rfl (hb hby at_148) rfl (XT.iconstV X8.here hx rfl (1 : Int32) (hb hby at_150) (by decide) (XS.icmpYes X8.here hx rfl (pc0 := 151) (pc' := 184) rfl (hb hby at_151) rfl (flt (by decide)).2.2.2 (by decide) (by decide) (XS.iload X8.here hx rfl (hb hby at_184) rfl k)))))))))))) ?_
    refine Wp.back (U' := (T8.setTop (mkF m 259 #[.val (.int p0), .val (.int p1), .val (.int p2), .val (.int p3), .val (.int p4), .val (.int (0 : Int32)), .val (.ref b6), .val (.ref b8_0), .val (.long (1 : Int64)), .second, .val (.long ((1 : Int64) + (p1).toInt64)), .second, .val (.long (((1 : Int64) + (p1).toInt64) + (p2).toInt64)), .second, .val (.long ((((1 : Int64) + (p1).toInt64) + (p2).toInt64) + (p3).toInt64)), .second, .val (.int (1 : Int32))] [(.int (1 : Int32))]))) (fun t k => XT.iconstV X8.here hx rfl (2 : Int32) (hb hby at_186) (by decide) (XS.icmpYes X8.here hx rfl (pc0 := 187) (pc' := 220) rfl (hb hby at_187) rfl (flt (by decide)).2.2.2 (by decide) (by decide) (XS.iload X8.here hx rfl (hb hby at_220) rfl (XT.iconstV X8.here hx rfl (3 : Int32) (hb hby at_222) (by decide) (XS.icmpYes X8.here hx rfl (pc0 := 223) (pc' := 257) rfl (hb hby at_223) rfl (flt (by decide)).2.2.2 (by decide) (by decide) (XS.iload X8.here hx rfl (hb hby at_257) rfl k)))))) ?_
    obtain ⟨fs, hr, hrun, hended, hW, hsame⟩ := X8.leave (v := (some (.int (1 : Int32)))) (fun h => by rw [hret] at h; cases h)
    refine Wp.done (retN X8 hx (t := .boolean) hret (by simp) (hb hby at_259) hr) hrun hended ⟨_, _, rfl, ?_, ⟨_, rfl⟩, hW, hsame.mono (by decide) (by decide)⟩
    show QL n0 _ T8.heap _
    exact ⟨rfl, N8⟩
  · rw [hk2]
    refine Wp.back (U' := (s₁.setTop (mkF m 10 #[.val (.int p0), .val (.int p1), .val (.int p2), .val (.int p3), .val (.int p4), .val (.int (1 : Int32)), .unset, .unset, .unset, .unset, .unset, .unset, .unset, .unset, .unset, .unset, .unset] [(.int (1 : Int32))]))) (fun t k => XS.iload X0.here hx rfl (hb hby at_8) rfl k) ?_
    obtain ⟨T11, h11, k11, X11, e11, E11, A11, st11⟩ := newP X0 hx hZ (hw _ (List.mem_of_getElem? (i := 1) rfl)) e0 (g := (mkF m 10 #[.val (.int p0), .val (.int p1), .val (.int p2), .val (.int p3), .val (.int p4), .val (.int (1 : Int32)), .unset, .unset, .unset, .unset, .unset, .unset, .unset, .unset, .unset, .unset, .unset] [(.int (1 : Int32))])) rfl (hb hby at_10) rfl (by decide) (cap := 1) (by decide) (by decide) (by decide) (by decide)
    obtain ⟨b11, g11⟩ : ∃ z, z = h0.size := ⟨_, rfl⟩
    rw [← g11] at A11 st11
    have g_b11 : n0 ≤ b11 := Nat.le_trans Z0 (Nat.le_of_eq g11.symm)
    have f12_0 := Nat.le_trans Z0 E11.1
    have V11 : Arv Z h11 b11 k11 .int (1 : Int32) [(.int (0 : Int32))] (.int (0 : Int32)) := (Arv.new A11 (by decide)).pad (pad_rep [] (.int (0 : Int32)) 1)
    refine Wp.back (U' := (T11.setTop (mkF m 12 #[.val (.int p0), .val (.int p1), .val (.int p2), .val (.int p3), .val (.int p4), .val (.int (1 : Int32)), .unset, .unset, .unset, .unset, .unset, .unset, .unset, .unset, .unset, .unset, .unset] [(.ref b11)]))) st11 ?_
    refine Wp.back (U' := (T11.setTop (mkF m 23 #[.val (.int p0), .val (.int p1), .val (.int p2), .val (.int p3), .val (.int p4), .val (.int (1 : Int32)), .val (.ref b11), .unset, .unset, .unset, .unset, .unset, .unset, .unset, .unset, .unset, .unset] [(.int p1), (.int (0 : Int32)), (.ref b11)]))) (fun t k => XS.astore X11.here hx rfl (hb hby at_12) rfl rfl (l' := #[.val (.int p0), .val (.int p1), .val (.int p2), .val (.int p3), .val (.int p4), .val (.int (1 : Int32)), .val (.ref b11), .unset, .unset, .unset, .unset, .unset, .unset, .unset, .unset, .unset, .unset]) rfl (XS.iload X11.here hx rfl (hb hby at_14) rfl (XS.ifNo X11.here hx rfl (hb hby at_16) rfl ((if0 _ _).trans (tlt (by decide)).2.2.2) (XS.aload X11.here hx rfl (hb hby at_19) rfl rfl (XT.iconstV X11.here hx rfl (0 : Int32) (hb hby at_21) (by decide) (XS.iloadN X11.here hx rfl (hb hby at_22) rfl k)))))) ?_
    have vq13 := V11
    obtain ⟨cl13, Ar13, qa13, qs13, qn13, qh13, qg13⟩ := vq13
    have hin13 : ¬ ((0 : Int32) < 0 ∨ cl13.slots.size ≤ ((0 : Int32)).toNatClampNeg) := inb_of qs13 ⟨by decide, by decide⟩
    obtain ⟨T13, h13, X13, e13, W13, st13⟩ := stI X11 hx hZ e11 Ar13 (j := (0 : Int32)) hin13 (g := (mkF m 23 #[.val (.int p0), .val (.int p1), .val (.int p2), .val (.int p3), .val (.int p4), .val (.int (1 : Int32)), .val (.ref b11), .unset, .unset, .unset, .unset, .unset, .unset, .unset, .unset, .unset, .unset] [(.int p1), (.int (0 : Int32)), (.ref b11)])) rfl rfl (hb hby at_23)
    have V13 : Arv Z h13 b11 k11 .int (1 : Int32) [(.int p1)] (.int (0 : Int32)) := Arv.set Ar13 qa13 qs13 qn13 qh13 qg13 rfl W13 0 rfl (Nat.le_of_ble_eq_true rfl)
    have f14_0 := Nat.le_trans f12_0 (Keep.of_wr W13).1
    have N13 := Fr.snoc X13 N0 g_b11
    refine Wp.back (U' := (T13.setTop (mkF m 24 #[.val (.int p0), .val (.int p1), .val (.int p2), .val (.int p3), .val (.int p4), .val (.int (1 : Int32)), .val (.ref b11), .unset, .unset, .unset, .unset, .unset, .unset, .unset, .unset, .unset, .unset] []))) st13 ?_
    refine Wp.back (U' := (T13.setTop (mkF m 60 #[.val (.int p0), .val (.int p1), .val (.int p2), .val (.int p3), .val (.int p4), .val (.int (1 : Int32)), .val (.ref b11), .unset, .unset, .unset, .unset, .unset, .unset, .unset, .unset, .unset, .unset] [(.ref b11)]))) (fun t k => XS.iload X13.here hx rfl (hb hby at_24) rfl (XT.iconstV X13.here hx rfl (1 : Int32) (hb hby at_26) (by decide) (XS.icmpYes X13.here hx rfl (pc0 := 27) (pc' := 35) rfl (hb hby at_27) rfl (flt (by decide)).2.2.2 (by decide) (by decide) (XS.iload X13.here hx rfl (hb hby at_35) rfl (XT.iconstV X13.here hx rfl (2 : Int32) (hb hby at_37) (by decide) (XS.icmpYes X13.here hx rfl (pc0 := 38) (pc' := 46) rfl (hb hby at_38) rfl (flt (by decide)).2.2.2 (by decide) (by decide) (XS.iload X13.here hx rfl (hb hby at_46) rfl (XT.iconstV X13.here hx rfl (3 : Int32) (hb hby at_48) (by decide) (XS.icmpYes X13.here hx rfl (pc0 := 49) (pc' := 58) rfl (hb hby at_49) rfl (flt (by decide)).2.2.2 (by decide) (by decide) (XS.aload X13.here hx rfl (hb hby at_58) rfl rfl k)))))))))) ?_
    obtain ⟨_, _, ⟨T15, L15, k15, n15⟩, -, X15, ⟨Lc15, hQ15, l15, y15, z15⟩, st15⟩ := Jvm.LawKit.callS X13 hx (y := (⟨"com/example/mill_river/millriver/index/Index", "documentStarts", "([I)[J"⟩ : MethodName)) hown (mvT hZ (hw _ (List.mem_of_getElem? (i := 2) rfl))) (mvT hZ (hw _ (List.mem_of_getElem? (i := 3) rfl))) (mvT hZ (hw _ (List.mem_of_getElem? (i := 4) rfl))) (mvT hZ (hw _ (List.mem_of_getElem? (i := 5) rfl))) (by decide) (backOf (W := 0) (rm_ds1 l Z a0 hw [] b11 k11 p1 h13 n0 f14_0 V13) hZ (hw _ (List.mem_of_getElem? (i := 5) rfl)) (hw _ (List.mem_of_getElem? (i := 4) rfl)) (by decide) (by decide)) (g := (mkF m 60 #[.val (.int p0), .val (.int p1), .val (.int p2), .val (.int p3), .val (.int p4), .val (.int (1 : Int32)), .val (.ref b11), .unset, .unset, .unset, .unset, .unset, .unset, .unset, .unset, .unset, .unset] [(.ref b11)])) rfl (by rw [hml]; rfl) (argsL := [(.ref b11)]) (rest := []) (lenOf pd0_0 rfl) rfl (by show 2 * 0 + _ ≤ _; exact Nat.le_of_eq rfl) (hb hby at_60) (fun _ _ => ⟨rfl, e13, (by decide : 1 + 1 ≤ _), (by decide : 1 + 1 ≤ _)⟩)
    dsimp only [Pt.U, Pt.locs, Pt.cells, Pt.slots] at X15 l15 y15 z15 st15 hQ15
    subst l15 y15 z15
    obtain ⟨b15_0, k15_0, rfl, N15q, K15, sf15_0, o15_0⟩ := hQ15
    have ne_b11_b15_0 : b11 ≠ b15_0 := Nat.ne_of_lt (Nat.lt_of_lt_of_le V13.lt sf15_0)
    have g_b15_0 : n0 ≤ b15_0 := Nat.le_trans f14_0 sf15_0
    have f16_0 := Nat.le_trans f14_0 K15.1
    have f16_1 := V13.keep K15 nin0
    have N15 := Fr.app N13 N15q
    refine Wp.back (U' := (T15.setTop (mkF m 63 #[.val (.int p0), .val (.int p1), .val (.int p2), .val (.int p3), .val (.int p4), .val (.int (1 : Int32)), .val (.ref b11), .unset, .unset, .unset, .unset, .unset, .unset, .unset, .unset, .unset, .unset] [(.ref b15_0)]))) st15 ?_
    refine Wp.back (U' := (T15.setTop (mkF m 72 #[.val (.int p0), .val (.int p1), .val (.int p2), .val (.int p3), .val (.int p4), .val (.int (1 : Int32)), .val (.ref b11), .val (.ref b15_0), .unset, .unset, .unset, .unset, .unset, .unset, .unset, .unset, .unset] [(.ref b15_0)]))) (fun t k => XS.astore X15.here hx rfl (hb hby at_63) rfl rfl (l' := #[.val (.int p0), .val (.int p1), .val (.int p2), .val (.int p3), .val (.int p4), .val (.int (1 : Int32)), .val (.ref b11), .val (.ref b15_0), .unset, .unset, .unset, .unset, .unset, .unset, .unset, .unset, .unset]) rfl (XS.aload X15.here hx rfl (hb hby at_65) rfl rfl (XS.ifnullNo X15.here hx rfl (hb hby at_67) rfl (XS.aload X15.here hx rfl (hb hby at_70) rfl rfl k)))) ?_
    have vq17 := o15_0
    obtain ⟨cl17, Ar17, -, qs17, qn17, -, -⟩ := vq17
    refine Wp.back (U' := (T15.setTop (mkF m 73 #[.val (.int p0), .val (.int p1), .val (.int p2), .val (.int p3), .val (.int p4), .val (.int (1 : Int32)), .val (.ref b11), .val (.ref b15_0), .unset, .unset, .unset, .unset, .unset, .unset, .unset, .unset, .unset] [(.int (1 : Int32))]))) (fun t k => X15.arraylength hx Ar17.1 (State.isArrayOf_alike hZ.alike Ar17.2.1) (g := (mkF m 72 #[.val (.int p0), .val (.int p1), .val (.int p2), .val (.int p3), .val (.int p4), .val (.int (1 : Int32)), .val (.ref b11), .val (.ref b15_0), .unset, .unset, .unset, .unset, .unset, .unset, .unset, .unset, .unset] [(.ref b15_0)])) rfl rfl (hb hby at_72) t (by rw [len_of qs17 qn17]; exact k)) ?_
    refine Wp.back (U' := (T15.setTop (mkF m 92 #[.val (.int p0), .val (.int p1), .val (.int p2), .val (.int p3), .val (.int p4), .val (.int (1 : Int32)), .val (.ref b11), .val (.ref b15_0), .val (.long (1 : Int64)), .second, .val (.long ((1 : Int64) + (p1).toInt64)), .second, .unset, .unset, .unset, .unset, .unset] [(.long (p1).toInt64), (.long (1 : Int64))]))) (fun t k => XS.iload X15.here hx rfl (hb hby at_73) rfl (XS.icmpYes X15.here hx rfl (pc0 := 75) (pc' := 80) rfl (hb hby at_75) rfl (teq (by decide)).1 (by decide) (by decide) (XT.lconstV X15.here hx rfl (1 : Int64) (hb hby at_80) (by decide) (XS.lstore X15.here hx rfl (hb hby at_81) rfl (l' := #[.val (.int p0), .val (.int p1), .val (.int p2), .val (.int p3), .val (.int p4), .val (.int (1 : Int32)), .val (.ref b11), .val (.ref b15_0), .val (.long (1 : Int64)), .second, .unset, .unset, .unset, .unset, .unset, .unset, .unset]) rfl (XT.lconstV X15.here hx rfl (1 : Int64) (hb hby at_83) (by decide) (XS.iloadN X15.here hx rfl (hb hby at_84) rfl (XS.i2l X15.here hx rfl (hb hby at_85) rfl (XS.ladd X15.here hx rfl (hb hby at_86) rfl (XS.lstore X15.here hx rfl (hb hby at_87) rfl (l' := #[.val (.int p0), .val (.int p1), .val (.int p2), .val (.int p3), .val (.int p4), .val (.int (1 : Int32)), .val (.ref b11), .val (.ref b15_0), .val (.long (1 : Int64)), .second, .val (.long ((1 : Int64) + (p1).toInt64)), .second, .unset, .unset, .unset, .unset, .unset]) rfl (XT.lconstV X15.here hx rfl (1 : Int64) (hb hby at_89) (by decide) (XS.iloadN X15.here hx rfl (hb hby at_90) rfl (XS.i2l X15.here hx rfl (hb hby at_91) rfl k)))))))))))) ?_
    refine Wp.back (U' := (T15.setTop (mkF m 105 #[.val (.int p0), .val (.int p1), .val (.int p2), .val (.int p3), .val (.int p4), .val (.int (1 : Int32)), .val (.ref b11), .val (.ref b15_0), .val (.long (1 : Int64)), .second, .val (.long ((1 : Int64) + (p1).toInt64)), .second, .val (.long (((1 : Int64) + (p1).toInt64) + (p2).toInt64)), .second, .unset, .unset, .unset] [(.long (((1 : Int64) + (p1).toInt64) + (p2).toInt64))]))) (fun t k => XS.ladd X15.here hx rfl (hb hby at_92) rfl (XS.iloadN X15.here hx rfl (hb hby at_93) rfl (XS.i2l X15.here hx rfl (hb hby at_94) rfl (XS.ladd X15.here hx rfl (hb hby at_95) rfl (XS.lstore X15.here hx rfl (hb hby at_96) rfl (l' := #[.val (.int p0), .val (.int p1), .val (.int p2), .val (.int p3), .val (.int p4), .val (.int (1 : Int32)), .val (.ref b11), .val (.ref b15_0), .val (.long (1 : Int64)), .second, .val (.long ((1 : Int64) + (p1).toInt64)), .second, .val (.long (((1 : Int64) + (p1).toInt64) + (p2).toInt64)), .second, .unset, .unset, .unset]) rfl (XT.lconstV X15.here hx rfl (1 : Int64) (hb hby at_98) (by decide) (XS.iloadN X15.here hx rfl (hb hby at_99) rfl (XS.i2l X15.here hx rfl (hb hby at_100) rfl (XS.ladd X15.here hx rfl (hb hby at_101) rfl (XS.iloadN X15.here hx rfl (hb hby at_102) rfl (XS.i2l X15.here hx rfl (hb hby at_103) rfl (XS.ladd X15.here hx rfl (hb hby at_104) rfl k)))))))))))) ?_
    refine Wp.back (U' := (T15.setTop (mkF m 126 #[.val (.int p0), .val (.int p1), .val (.int p2), .val (.int p3), .val (.int p4), .val (.int (1 : Int32)), .val (.ref b11), .val (.ref b15_0), .val (.long (1 : Int64)), .second, .val (.long ((1 : Int64) + (p1).toInt64)), .second, .val (.long (((1 : Int64) + (p1).toInt64) + (p2).toInt64)), .second, .val (.long ((((1 : Int64) + (p1).toInt64) + (p2).toInt64) + (p3).toInt64)), .second, .val (.int (1 : Int32))] [(.int (0 : Int32)), (.ref b15_0)]))) (fun t k => XS.iloadN X15.here hx rfl (hb hby at_105) rfl (XS.i2l X15.here hx rfl (hb hby at_106) rfl (XS.ladd X15.here hx rfl (hb hby at_107) rfl (XS.lstore X15.here hx rfl (hb hby at_108) rfl (l' := #[.val (.int p0), .val (.int p1), .val (.int p2), .val (.int p3), .val (.int p4), .val (.int (1 : Int32)), .val (.ref b11), .val (.ref b15_0), .val (.long (1 : Int64)), .second, .val (.long ((1 : Int64) + (p1).toInt64)), .second, .val (.long (((1 : Int64) + (p1).toInt64) + (p2).toInt64)), .second, .val (.long ((((1 : Int64) + (p1).toInt64) + (p2).toInt64) + (p3).toInt64)), .second, .unset]) rfl (XT.iconstV X15.here hx rfl (1 : Int32) (hb hby at_110) (by decide) (XS.istore X15.here hx rfl (hb hby at_111) rfl (l' := #[.val (.int p0), .val (.int p1), .val (.int p2), .val (.int p3), .val (.int p4), .val (.int (1 : Int32)), .val (.ref b11), .val (.ref b15_0), .val (.long (1 : Int64)), .second, .val (.long ((1 : Int64) + (p1).toInt64)), .second, .val (.long (((1 : Int64) + (p1).toInt64) + (p2).toInt64)), .second, .val (.long ((((1 : Int64) + (p1).toInt64) + (p2).toInt64) + (p3).toInt64)), .second, .val (.int (1 : Int32))]) rfl (XS.iload X15.here hx rfl (hb hby at_113) rfl (XS.ifNo X15.here hx rfl (hb hby at_115) rfl ((if0 _ _).trans (tlt (by decide)).2.2.2) (XS.iload X15.here hx rfl (hb hby at_118) rfl (XS.ifNo X15.here hx rfl (hb hby at_120) rfl ((if0 _ _).trans (feq (by decide)).1) (XS.aload X15.here hx rfl (hb hby at_123) rfl rfl (XT.iconstV X15.here hx rfl (0 : Int32) (hb hby at_125) (by decide) k)))))))))))) ?_
    have vq18 := o15_0
    obtain ⟨cl18, Ar18, qa18, qs18, qn18, qh18, qg18⟩ := vq18
    have hin18 : ¬ ((0 : Int32) < 0 ∨ cl18.slots.size ≤ ((0 : Int32)).toNatClampNeg) := inb_of qs18 ⟨by decide, by decide⟩
    have hat18 : cl18.slots[((0 : Int32)).toNatClampNeg]? = some (.long (1 : Int64)) := Has.at qh18 hin18 rfl
    refine Wp.back (U' := (T15.setTop (mkF m 127 #[.val (.int p0), .val (.int p1), .val (.int p2), .val (.int p3), .val (.int p4), .val (.int (1 : Int32)), .val (.ref b11), .val (.ref b15_0), .val (.long (1 : Int64)), .second, .val (.long ((1 : Int64) + (p1).toInt64)), .second, .val (.long (((1 : Int64) + (p1).toInt64) + (p2).toInt64)), .second, .val (.long ((((1 : Int64) + (p1).toInt64) + (p2).toInt64) + (p3).toInt64)), .second, .val (.int (1 : Int32))] [(.long (1 : Int64))]))) (fun t k => X15.laload hx (j := (0 : Int32)) (v := (.long (1 : Int64))) Ar18.1 (State.isArrayOf_alike hZ.alike Ar18.2.1) Ar18.2.2 hin18 hat18 (g := (mkF m 126 #[.val (.int p0), .val (.int p1), .val (.int p2), .val (.int p3), .val (.int p4), .val (.int (1 : Int32)), .val (.ref b11), .val (.ref b15_0), .val (.long (1 : Int64)), .second, .val (.long ((1 : Int64) + (p1).toInt64)), .second, .val (.long (((1 : Int64) + (p1).toInt64) + (p2).toInt64)), .second, .val (.long ((((1 : Int64) + (p1).toInt64) + (p2).toInt64) + (p3).toInt64)), .second, .val (.int (1 : Int32))] [(.int (0 : Int32)), (.ref b15_0)])) rfl rfl (hb hby at_126) t k) ?_
    refine Wp.back (U' := (T15.setTop (mkF m 136 #[.val (.int p0), .val (.int p1), .val (.int p2), .val (.int p3), .val (.int p4), .val (.int (1 : Int32)), .val (.ref b11), .val (.ref b15_0), .val (.long (1 : Int64)), .second, .val (.long ((1 : Int64) + (p1).toInt64)), .second, .val (.long (((1 : Int64) + (p1).toInt64) + (p2).toInt64)), .second, .val (.long ((((1 : Int64) + (p1).toInt64) + (p2).toInt64) + (p3).toInt64)), .second, .val (.int (1 : Int32))] [(.int (0 : Int32)), (.ref b11)]))) (fun t k => XS.lload X15.here hx rfl (hb hby at_127) rfl (XS.lcmp X15.here hx rfl (hb hby at_129) rfl (XS.ifNo X15.here hx rfl (hb hby at_130) rfl ((if0 _ _).trans (teq ((lw_eq (1 : Int64) (1 : Int64)).mpr (by decide))).2) (XS.aload X15.here hx rfl (hb hby at_133) rfl rfl (XT.iconstV X15.here hx rfl (0 : Int32) (hb hby at_135) (by decide) k))))) ?_
    have vq19 := f16_1
    obtain ⟨cl19, Ar19, qa19, qs19, qn19, qh19, qg19⟩ := vq19
    have hin19 : ¬ ((0 : Int32) < 0 ∨ cl19.slots.size ≤ ((0 : Int32)).toNatClampNeg) := inb_of qs19 ⟨by decide, by decide⟩
    have hat19 : cl19.slots[((0 : Int32)).toNatClampNeg]? = some (.int p1) := Has.at qh19 hin19 rfl
    refine Wp.back (U' := (T15.setTop (mkF m 137 #[.val (.int p0), .val (.int p1), .val (.int p2), .val (.int p3), .val (.int p4), .val (.int (1 : Int32)), .val (.ref b11), .val (.ref b15_0), .val (.long (1 : Int64)), .second, .val (.long ((1 : Int64) + (p1).toInt64)), .second, .val (.long (((1 : Int64) + (p1).toInt64) + (p2).toInt64)), .second, .val (.long ((((1 : Int64) + (p1).toInt64) + (p2).toInt64) + (p3).toInt64)), .second, .val (.int (1 : Int32))] [(.int p1)]))) (fun t k => X15.iaload hx (j := (0 : Int32)) (v := (.int p1)) Ar19.1 (State.isArrayOf_alike hZ.alike Ar19.2.1) Ar19.2.2 hin19 hat19 (g := (mkF m 136 #[.val (.int p0), .val (.int p1), .val (.int p2), .val (.int p3), .val (.int p4), .val (.int (1 : Int32)), .val (.ref b11), .val (.ref b15_0), .val (.long (1 : Int64)), .second, .val (.long ((1 : Int64) + (p1).toInt64)), .second, .val (.long (((1 : Int64) + (p1).toInt64) + (p2).toInt64)), .second, .val (.long ((((1 : Int64) + (p1).toInt64) + (p2).toInt64) + (p3).toInt64)), .second, .val (.int (1 : Int32))] [(.int (0 : Int32)), (.ref b11)])) rfl rfl (hb hby at_136) t k) ?_
    refine Wp.back (U' := (T15.setTop (mkF m 222 #[.val (.int p0), .val (.int p1), .val (.int p2), .val (.int p3), .val (.int p4), .val (.int (1 : Int32)), .val (.ref b11), .val (.ref b15_0), .val (.long (1 : Int64)), .second, .val (.long ((1 : Int64) + (p1).toInt64)), .second, .val (.long (((1 : Int64) + (p1).toInt64) + (p2).toInt64)), .second, .val (.long ((((1 : Int64) + (p1).toInt64) + (p2).toInt64) + (p3).toInt64)), .second, .val (.int (1 : Int32))] [(.int (1 : Int32))]))) (fun t k => XS.iloadN X15.here hx rfl (hb hby at_137) rfl (XS.icmpNo X15.here hx rfl (hb hby at_138) rfl (teq (rfl : p1 = p1)).2 (XT.iconstV X15.here hx rfl (1 : Int32) (hb hby at_141) (by decide) (XS.goto X15.here hx rfl (pc0 := 142) (pc' := 146) rfl (hb hby at_142) (by decide) (by decide) (XS.istore X15.here hx rfl (hb hby at_146) rfl (l' := #[.val (.int p0), .val (.int p1), .val (.int p2), .val (.int p3), .val (.int p4), .val (.int (1 : Int32)), .val (.ref b11), .val (.ref b15_0), .val (.long (1 : Int64)), .second, .val (.long ((1 : Int64) + (p1).toInt64)), .second, .val (.long (((1 : Int64) + (p1).toInt64) + (p2).toInt64)), .second, .val (.long ((((1 : Int64) + (p1).toInt64) + (p2).toInt64) + (p3).toInt64)), .second, .val (.int (1 : Int32))]) rfl (XS.iload X15.here hx rfl (hb hby at_148) rfl (XT.iconstV X15.here hx rfl (1 : Int32) (hb hby at_150) (by decide) (XS.icmpYes X15.here hx rfl (pc0 := 151) (pc' := 184) rfl (hb hby at_151) rfl (flt (by decide)).2.2.2 (by decide) (by decide) (XS.iload X15.here hx rfl (hb hby at_184) rfl (XT.iconstV X15.here hx rfl (2 : Int32) (hb hby at_186) (by decide) (XS.icmpYes X15.here hx rfl (pc0 := 187) (pc' := 220) rfl (hb hby at_187) rfl (flt (by decide)).2.2.2 (by decide) (by decide) (XS.iload X15.here hx rfl (hb hby at_220) rfl k)))))))))))) ?_
    refine Wp.back (U' := (T15.setTop (mkF m 259 #[.val (.int p0), .val (.int p1), .val (.int p2), .val (.int p3), .val (.int p4), .val (.int (1 : Int32)), .val (.ref b11), .val (.ref b15_0), .val (.long (1 : Int64)), .second, .val (.long ((1 : Int64) + (p1).toInt64)), .second, .val (.long (((1 : Int64) + (p1).toInt64) + (p2).toInt64)), .second, .val (.long ((((1 : Int64) + (p1).toInt64) + (p2).toInt64) + (p3).toInt64)), .second, .val (.int (1 : Int32))] [(.int (1 : Int32))]))) (fun t k => XT.iconstV X15.here hx rfl (3 : Int32) (hb hby at_222) (by decide) (XS.icmpYes X15.here hx rfl (pc0 := 223) (pc' := 257) rfl (hb hby at_223) rfl (flt (by decide)).2.2.2 (by decide) (by decide) (XS.iload X15.here hx rfl (hb hby at_257) rfl k))) ?_
    obtain ⟨fs, hr, hrun, hended, hW, hsame⟩ := X15.leave (v := (some (.int (1 : Int32)))) (fun h => by rw [hret] at h; cases h)
    refine Wp.done (retN X15 hx (t := .boolean) hret (by simp) (hb hby at_259) hr) hrun hended ⟨_, _, rfl, ?_, ⟨_, rfl⟩, hW, hsame.mono (by decide) (by decide)⟩
    show QL n0 _ T15.heap _
    exact ⟨rfl, N15⟩
  · rw [hk3]
    refine Wp.back (U' := (s₁.setTop (mkF m 10 #[.val (.int p0), .val (.int p1), .val (.int p2), .val (.int p3), .val (.int p4), .val (.int (2 : Int32)), .unset, .unset, .unset, .unset, .unset, .unset, .unset, .unset, .unset, .unset, .unset] [(.int (2 : Int32))]))) (fun t k => XS.iload X0.here hx rfl (hb hby at_8) rfl k) ?_
    obtain ⟨T20, h20, k20, X20, e20, E20, A20, st20⟩ := newP X0 hx hZ (hw _ (List.mem_of_getElem? (i := 1) rfl)) e0 (g := (mkF m 10 #[.val (.int p0), .val (.int p1), .val (.int p2), .val (.int p3), .val (.int p4), .val (.int (2 : Int32)), .unset, .unset, .unset, .unset, .unset, .unset, .unset, .unset, .unset, .unset, .unset] [(.int (2 : Int32))])) rfl (hb hby at_10) rfl (by decide) (cap := 2) (by decide) (by decide) (by decide) (by decide)
    obtain ⟨b20, g20⟩ : ∃ z, z = h0.size := ⟨_, rfl⟩
    rw [← g20] at A20 st20
    have g_b20 : n0 ≤ b20 := Nat.le_trans Z0 (Nat.le_of_eq g20.symm)
    have f21_0 := Nat.le_trans Z0 E20.1
    have V20 : Arv Z h20 b20 k20 .int (2 : Int32) [(.int (0 : Int32)), (.int (0 : Int32))] (.int (0 : Int32)) := (Arv.new A20 (by decide)).pad (pad_rep [] (.int (0 : Int32)) 2)
    refine Wp.back (U' := (T20.setTop (mkF m 12 #[.val (.int p0), .val (.int p1), .val (.int p2), .val (.int p3), .val (.int p4), .val (.int (2 : Int32)), .unset, .unset, .unset, .unset, .unset, .unset, .unset, .unset, .unset, .unset, .unset] [(.ref b20)]))) st20 ?_
    refine Wp.back (U' := (T20.setTop (mkF m 23 #[.val (.int p0), .val (.int p1), .val (.int p2), .val (.int p3), .val (.int p4), .val (.int (2 : Int32)), .val (.ref b20), .unset, .unset, .unset, .unset, .unset, .unset, .unset, .unset, .unset, .unset] [(.int p1), (.int (0 : Int32)), (.ref b20)]))) (fun t k => XS.astore X20.here hx rfl (hb hby at_12) rfl rfl (l' := #[.val (.int p0), .val (.int p1), .val (.int p2), .val (.int p3), .val (.int p4), .val (.int (2 : Int32)), .val (.ref b20), .unset, .unset, .unset, .unset, .unset, .unset, .unset, .unset, .unset, .unset]) rfl (XS.iload X20.here hx rfl (hb hby at_14) rfl (XS.ifNo X20.here hx rfl (hb hby at_16) rfl ((if0 _ _).trans (tlt (by decide)).2.2.2) (XS.aload X20.here hx rfl (hb hby at_19) rfl rfl (XT.iconstV X20.here hx rfl (0 : Int32) (hb hby at_21) (by decide) (XS.iloadN X20.here hx rfl (hb hby at_22) rfl k)))))) ?_
    have vq22 := V20
    obtain ⟨cl22, Ar22, qa22, qs22, qn22, qh22, qg22⟩ := vq22
    have hin22 : ¬ ((0 : Int32) < 0 ∨ cl22.slots.size ≤ ((0 : Int32)).toNatClampNeg) := inb_of qs22 ⟨by decide, by decide⟩
    obtain ⟨T22, h22, X22, e22, W22, st22⟩ := stI X20 hx hZ e20 Ar22 (j := (0 : Int32)) hin22 (g := (mkF m 23 #[.val (.int p0), .val (.int p1), .val (.int p2), .val (.int p3), .val (.int p4), .val (.int (2 : Int32)), .val (.ref b20), .unset, .unset, .unset, .unset, .unset, .unset, .unset, .unset, .unset, .unset] [(.int p1), (.int (0 : Int32)), (.ref b20)])) rfl rfl (hb hby at_23)
    have V22 : Arv Z h22 b20 k20 .int (2 : Int32) [(.int p1), (.int (0 : Int32))] (.int (0 : Int32)) := Arv.set Ar22 qa22 qs22 qn22 qh22 qg22 rfl W22 0 rfl (Nat.le_of_ble_eq_true rfl)
    have f23_0 := Nat.le_trans f21_0 (Keep.of_wr W22).1
    have N22 := Fr.snoc X22 N0 g_b20
    refine Wp.back (U' := (T22.setTop (mkF m 24 #[.val (.int p0), .val (.int p1), .val (.int p2), .val (.int p3), .val (.int p4), .val (.int (2 : Int32)), .val (.ref b20), .unset, .unset, .unset, .unset, .unset, .unset, .unset, .unset, .unset, .unset] []))) st22 ?_
    refine Wp.back (U' := (T22.setTop (mkF m 34 #[.val (.int p0), .val (.int p1), .val (.int p2), .val (.int p3), .val (.int p4), .val (.int (2 : Int32)), .val (.ref b20), .unset, .unset, .unset, .unset, .unset, .unset, .unset, .unset, .unset, .unset] [(.int p2), (.int (1 : Int32)), (.ref b20)]))) (fun t k => XS.iload X22.here hx rfl (hb hby at_24) rfl (XT.iconstV X22.here hx rfl (1 : Int32) (hb hby at_26) (by decide) (XS.icmpNo X22.here hx rfl (hb hby at_27) rfl (tlt (by decide)).2.2.2 (XS.aload X22.here hx rfl (hb hby at_30) rfl rfl (XT.iconstV X22.here hx rfl (1 : Int32) (hb hby at_32) (by decide) (XS.iloadN X22.here hx rfl (hb hby at_33) rfl k)))))) ?_
    have vq24 := V22
    obtain ⟨cl24, Ar24, qa24, qs24, qn24, qh24, qg24⟩ := vq24
    have hin24 : ¬ ((1 : Int32) < 0 ∨ cl24.slots.size ≤ ((1 : Int32)).toNatClampNeg) := inb_of qs24 ⟨by decide, by decide⟩
    obtain ⟨T24, h24, X24, e24, W24, st24⟩ := stI X22 hx hZ e22 Ar24 (j := (1 : Int32)) hin24 (g := (mkF m 34 #[.val (.int p0), .val (.int p1), .val (.int p2), .val (.int p3), .val (.int p4), .val (.int (2 : Int32)), .val (.ref b20), .unset, .unset, .unset, .unset, .unset, .unset, .unset, .unset, .unset, .unset] [(.int p2), (.int (1 : Int32)), (.ref b20)])) rfl rfl (hb hby at_34)
    have V24 : Arv Z h24 b20 k20 .int (2 : Int32) [(.int p1), (.int p2)] (.int (0 : Int32)) := Arv.set Ar24 qa24 qs24 qn24 qh24 qg24 rfl W24 1 rfl (Nat.le_of_ble_eq_true rfl)
    have f25_0 := Nat.le_trans f23_0 (Keep.of_wr W24).1
    have N24 := Fr.snoc X24 N22 g_b20
    refine Wp.back (U' := (T24.setTop (mkF m 35 #[.val (.int p0), .val (.int p1), .val (.int p2), .val (.int p3), .val (.int p4), .val (.int (2 : Int32)), .val (.ref b20), .unset, .unset, .unset, .unset, .unset, .unset, .unset, .unset, .unset, .unset] []))) st24 ?_
    refine Wp.back (U' := (T24.setTop (mkF m 60 #[.val (.int p0), .val (.int p1), .val (.int p2), .val (.int p3), .val (.int p4), .val (.int (2 : Int32)), .val (.ref b20), .unset, .unset, .unset, .unset, .unset, .unset, .unset, .unset, .unset, .unset] [(.ref b20)]))) (fun t k => XS.iload X24.here hx rfl (hb hby at_35) rfl (XT.iconstV X24.here hx rfl (2 : Int32) (hb hby at_37) (by decide) (XS.icmpYes X24.here hx rfl (pc0 := 38) (pc' := 46) rfl (hb hby at_38) rfl (flt (by decide)).2.2.2 (by decide) (by decide) (XS.iload X24.here hx rfl (hb hby at_46) rfl (XT.iconstV X24.here hx rfl (3 : Int32) (hb hby at_48) (by decide) (XS.icmpYes X24.here hx rfl (pc0 := 49) (pc' := 58) rfl (hb hby at_49) rfl (flt (by decide)).2.2.2 (by decide) (by decide) (XS.aload X24.here hx rfl (hb hby at_58) rfl rfl k))))))) ?_
    obtain ⟨_, _, ⟨T26, L26, k26, n26⟩, -, X26, ⟨Lc26, hQ26, l26, y26, z26⟩, st26⟩ := Jvm.LawKit.callS X24 hx (y := (⟨"com/example/mill_river/millriver/index/Index", "documentStarts", "([I)[J"⟩ : MethodName)) hown (mvT hZ (hw _ (List.mem_of_getElem? (i := 2) rfl))) (mvT hZ (hw _ (List.mem_of_getElem? (i := 3) rfl))) (mvT hZ (hw _ (List.mem_of_getElem? (i := 4) rfl))) (mvT hZ (hw _ (List.mem_of_getElem? (i := 5) rfl))) (by decide) (backOf (W := 0) (rm_ds2 l Z a0 hw [] b20 k20 p1 p2 h24 n0 f25_0 V24) hZ (hw _ (List.mem_of_getElem? (i := 5) rfl)) (hw _ (List.mem_of_getElem? (i := 4) rfl)) (by decide) (by decide)) (g := (mkF m 60 #[.val (.int p0), .val (.int p1), .val (.int p2), .val (.int p3), .val (.int p4), .val (.int (2 : Int32)), .val (.ref b20), .unset, .unset, .unset, .unset, .unset, .unset, .unset, .unset, .unset, .unset] [(.ref b20)])) rfl (by rw [hml]; rfl) (argsL := [(.ref b20)]) (rest := []) (lenOf pd0_0 rfl) rfl (by show 2 * 0 + _ ≤ _; exact Nat.le_of_eq rfl) (hb hby at_60) (fun _ _ => ⟨rfl, e24, (by decide : 1 + 1 ≤ _), (by decide : 2 + 2 ≤ _)⟩)
    dsimp only [Pt.U, Pt.locs, Pt.cells, Pt.slots] at X26 l26 y26 z26 st26 hQ26
    subst l26 y26 z26
    obtain ⟨b26_0, k26_0, rfl, N26q, K26, sf26_0, o26_0⟩ := hQ26
    have ne_b20_b26_0 : b20 ≠ b26_0 := Nat.ne_of_lt (Nat.lt_of_lt_of_le V24.lt sf26_0)
    have g_b26_0 : n0 ≤ b26_0 := Nat.le_trans f25_0 sf26_0
    have f27_0 := Nat.le_trans f25_0 K26.1
    have f27_1 := V24.keep K26 nin0
    have N26 := Fr.app N24 N26q
    refine Wp.back (U' := (T26.setTop (mkF m 63 #[.val (.int p0), .val (.int p1), .val (.int p2), .val (.int p3), .val (.int p4), .val (.int (2 : Int32)), .val (.ref b20), .unset, .unset, .unset, .unset, .unset, .unset, .unset, .unset, .unset, .unset] [(.ref b26_0)]))) st26 ?_
    refine Wp.back (U' := (T26.setTop (mkF m 72 #[.val (.int p0), .val (.int p1), .val (.int p2), .val (.int p3), .val (.int p4), .val (.int (2 : Int32)), .val (.ref b20), .val (.ref b26_0), .unset, .unset, .unset, .unset, .unset, .unset, .unset, .unset, .unset] [(.ref b26_0)]))) (fun t k => XS.astore X26.here hx rfl (hb hby at_63) rfl rfl (l' := #[.val (.int p0), .val (.int p1), .val (.int p2), .val (.int p3), .val (.int p4), .val (.int (2 : Int32)), .val (.ref b20), .val (.ref b26_0), .unset, .unset, .unset, .unset, .unset, .unset, .unset, .unset, .unset]) rfl (XS.aload X26.here hx rfl (hb hby at_65) rfl rfl (XS.ifnullNo X26.here hx rfl (hb hby at_67) rfl (XS.aload X26.here hx rfl (hb hby at_70) rfl rfl k)))) ?_
    have vq28 := o26_0
    obtain ⟨cl28, Ar28, -, qs28, qn28, -, -⟩ := vq28
    refine Wp.back (U' := (T26.setTop (mkF m 73 #[.val (.int p0), .val (.int p1), .val (.int p2), .val (.int p3), .val (.int p4), .val (.int (2 : Int32)), .val (.ref b20), .val (.ref b26_0), .unset, .unset, .unset, .unset, .unset, .unset, .unset, .unset, .unset] [(.int (2 : Int32))]))) (fun t k => X26.arraylength hx Ar28.1 (State.isArrayOf_alike hZ.alike Ar28.2.1) (g := (mkF m 72 #[.val (.int p0), .val (.int p1), .val (.int p2), .val (.int p3), .val (.int p4), .val (.int (2 : Int32)), .val (.ref b20), .val (.ref b26_0), .unset, .unset, .unset, .unset, .unset, .unset, .unset, .unset, .unset] [(.ref b26_0)])) rfl rfl (hb hby at_72) t (by rw [len_of qs28 qn28]; exact k)) ?_
    refine Wp.back (U' := (T26.setTop (mkF m 92 #[.val (.int p0), .val (.int p1), .val (.int p2), .val (.int p3), .val (.int p4), .val (.int (2 : Int32)), .val (.ref b20), .val (.ref b26_0), .val (.long (1 : Int64)), .second, .val (.long ((1 : Int64) + (p1).toInt64)), .second, .unset, .unset, .unset, .unset, .unset] [(.long (p1).toInt64), (.long (1 : Int64))]))) (fun t k => XS.iload X26.here hx rfl (hb hby at_73) rfl (XS.icmpYes X26.here hx rfl (pc0 := 75) (pc' := 80) rfl (hb hby at_75) rfl (teq (by decide)).1 (by decide) (by decide) (XT.lconstV X26.here hx rfl (1 : Int64) (hb hby at_80) (by decide) (XS.lstore X26.here hx rfl (hb hby at_81) rfl (l' := #[.val (.int p0), .val (.int p1), .val (.int p2), .val (.int p3), .val (.int p4), .val (.int (2 : Int32)), .val (.ref b20), .val (.ref b26_0), .val (.long (1 : Int64)), .second, .unset, .unset, .unset, .unset, .unset, .unset, .unset]) rfl (XT.lconstV X26.here hx rfl (1 : Int64) (hb hby at_83) (by decide) (XS.iloadN X26.here hx rfl (hb hby at_84) rfl (XS.i2l X26.here hx rfl (hb hby at_85) rfl (XS.ladd X26.here hx rfl (hb hby at_86) rfl (XS.lstore X26.here hx rfl (hb hby at_87) rfl (l' := #[.val (.int p0), .val (.int p1), .val (.int p2), .val (.int p3), .val (.int p4), .val (.int (2 : Int32)), .val (.ref b20), .val (.ref b26_0), .val (.long (1 : Int64)), .second, .val (.long ((1 : Int64) + (p1).toInt64)), .second, .unset, .unset, .unset, .unset, .unset]) rfl (XT.lconstV X26.here hx rfl (1 : Int64) (hb hby at_89) (by decide) (XS.iloadN X26.here hx rfl (hb hby at_90) rfl (XS.i2l X26.here hx rfl (hb hby at_91) rfl k)))))))))))) ?_
    refine Wp.back (U' := (T26.setTop (mkF m 105 #[.val (.int p0), .val (.int p1), .val (.int p2), .val (.int p3), .val (.int p4), .val (.int (2 : Int32)), .val (.ref b20), .val (.ref b26_0), .val (.long (1 : Int64)), .second, .val (.long ((1 : Int64) + (p1).toInt64)), .second, .val (.long (((1 : Int64) + (p1).toInt64) + (p2).toInt64)), .second, .unset, .unset, .unset] [(.long (((1 : Int64) + (p1).toInt64) + (p2).toInt64))]))) (fun t k => XS.ladd X26.here hx rfl (hb hby at_92) rfl (XS.iloadN X26.here hx rfl (hb hby at_93) rfl (XS.i2l X26.here hx rfl (hb hby at_94) rfl (XS.ladd X26.here hx rfl (hb hby at_95) rfl (XS.lstore X26.here hx rfl (hb hby at_96) rfl (l' := #[.val (.int p0), .val (.int p1), .val (.int p2), .val (.int p3), .val (.int p4), .val (.int (2 : Int32)), .val (.ref b20), .val (.ref b26_0), .val (.long (1 : Int64)), .second, .val (.long ((1 : Int64) + (p1).toInt64)), .second, .val (.long (((1 : Int64) + (p1).toInt64) + (p2).toInt64)), .second, .unset, .unset, .unset]) rfl (XT.lconstV X26.here hx rfl (1 : Int64) (hb hby at_98) (by decide) (XS.iloadN X26.here hx rfl (hb hby at_99) rfl (XS.i2l X26.here hx rfl (hb hby at_100) rfl (XS.ladd X26.here hx rfl (hb hby at_101) rfl (XS.iloadN X26.here hx rfl (hb hby at_102) rfl (XS.i2l X26.here hx rfl (hb hby at_103) rfl (XS.ladd X26.here hx rfl (hb hby at_104) rfl k)))))))))))) ?_
    refine Wp.back (U' := (T26.setTop (mkF m 126 #[.val (.int p0), .val (.int p1), .val (.int p2), .val (.int p3), .val (.int p4), .val (.int (2 : Int32)), .val (.ref b20), .val (.ref b26_0), .val (.long (1 : Int64)), .second, .val (.long ((1 : Int64) + (p1).toInt64)), .second, .val (.long (((1 : Int64) + (p1).toInt64) + (p2).toInt64)), .second, .val (.long ((((1 : Int64) + (p1).toInt64) + (p2).toInt64) + (p3).toInt64)), .second, .val (.int (1 : Int32))] [(.int (0 : Int32)), (.ref b26_0)]))) (fun t k => XS.iloadN X26.here hx rfl (hb hby at_105) rfl (XS.i2l X26.here hx rfl (hb hby at_106) rfl (XS.ladd X26.here hx rfl (hb hby at_107) rfl (XS.lstore X26.here hx rfl (hb hby at_108) rfl (l' := #[.val (.int p0), .val (.int p1), .val (.int p2), .val (.int p3), .val (.int p4), .val (.int (2 : Int32)), .val (.ref b20), .val (.ref b26_0), .val (.long (1 : Int64)), .second, .val (.long ((1 : Int64) + (p1).toInt64)), .second, .val (.long (((1 : Int64) + (p1).toInt64) + (p2).toInt64)), .second, .val (.long ((((1 : Int64) + (p1).toInt64) + (p2).toInt64) + (p3).toInt64)), .second, .unset]) rfl (XT.iconstV X26.here hx rfl (1 : Int32) (hb hby at_110) (by decide) (XS.istore X26.here hx rfl (hb hby at_111) rfl (l' := #[.val (.int p0), .val (.int p1), .val (.int p2), .val (.int p3), .val (.int p4), .val (.int (2 : Int32)), .val (.ref b20), .val (.ref b26_0), .val (.long (1 : Int64)), .second, .val (.long ((1 : Int64) + (p1).toInt64)), .second, .val (.long (((1 : Int64) + (p1).toInt64) + (p2).toInt64)), .second, .val (.long ((((1 : Int64) + (p1).toInt64) + (p2).toInt64) + (p3).toInt64)), .second, .val (.int (1 : Int32))]) rfl (XS.iload X26.here hx rfl (hb hby at_113) rfl (XS.ifNo X26.here hx rfl (hb hby at_115) rfl ((if0 _ _).trans (tlt (by decide)).2.2.2) (XS.iload X26.here hx rfl (hb hby at_118) rfl (XS.ifNo X26.here hx rfl (hb hby at_120) rfl ((if0 _ _).trans (feq (by decide)).1) (XS.aload X26.here hx rfl (hb hby at_123) rfl rfl (XT.iconstV X26.here hx rfl (0 : Int32) (hb hby at_125) (by decide) k)))))))))))) ?_
    have vq29 := o26_0
    obtain ⟨cl29, Ar29, qa29, qs29, qn29, qh29, qg29⟩ := vq29
    have hin29 : ¬ ((0 : Int32) < 0 ∨ cl29.slots.size ≤ ((0 : Int32)).toNatClampNeg) := inb_of qs29 ⟨by decide, by decide⟩
    have hat29 : cl29.slots[((0 : Int32)).toNatClampNeg]? = some (.long (1 : Int64)) := Has.at qh29 hin29 rfl
    refine Wp.back (U' := (T26.setTop (mkF m 127 #[.val (.int p0), .val (.int p1), .val (.int p2), .val (.int p3), .val (.int p4), .val (.int (2 : Int32)), .val (.ref b20), .val (.ref b26_0), .val (.long (1 : Int64)), .second, .val (.long ((1 : Int64) + (p1).toInt64)), .second, .val (.long (((1 : Int64) + (p1).toInt64) + (p2).toInt64)), .second, .val (.long ((((1 : Int64) + (p1).toInt64) + (p2).toInt64) + (p3).toInt64)), .second, .val (.int (1 : Int32))] [(.long (1 : Int64))]))) (fun t k => X26.laload hx (j := (0 : Int32)) (v := (.long (1 : Int64))) Ar29.1 (State.isArrayOf_alike hZ.alike Ar29.2.1) Ar29.2.2 hin29 hat29 (g := (mkF m 126 #[.val (.int p0), .val (.int p1), .val (.int p2), .val (.int p3), .val (.int p4), .val (.int (2 : Int32)), .val (.ref b20), .val (.ref b26_0), .val (.long (1 : Int64)), .second, .val (.long ((1 : Int64) + (p1).toInt64)), .second, .val (.long (((1 : Int64) + (p1).toInt64) + (p2).toInt64)), .second, .val (.long ((((1 : Int64) + (p1).toInt64) + (p2).toInt64) + (p3).toInt64)), .second, .val (.int (1 : Int32))] [(.int (0 : Int32)), (.ref b26_0)])) rfl rfl (hb hby at_126) t k) ?_
    refine Wp.back (U' := (T26.setTop (mkF m 136 #[.val (.int p0), .val (.int p1), .val (.int p2), .val (.int p3), .val (.int p4), .val (.int (2 : Int32)), .val (.ref b20), .val (.ref b26_0), .val (.long (1 : Int64)), .second, .val (.long ((1 : Int64) + (p1).toInt64)), .second, .val (.long (((1 : Int64) + (p1).toInt64) + (p2).toInt64)), .second, .val (.long ((((1 : Int64) + (p1).toInt64) + (p2).toInt64) + (p3).toInt64)), .second, .val (.int (1 : Int32))] [(.int (0 : Int32)), (.ref b20)]))) (fun t k => XS.lload X26.here hx rfl (hb hby at_127) rfl (XS.lcmp X26.here hx rfl (hb hby at_129) rfl (XS.ifNo X26.here hx rfl (hb hby at_130) rfl ((if0 _ _).trans (teq ((lw_eq (1 : Int64) (1 : Int64)).mpr (by decide))).2) (XS.aload X26.here hx rfl (hb hby at_133) rfl rfl (XT.iconstV X26.here hx rfl (0 : Int32) (hb hby at_135) (by decide) k))))) ?_
    have vq30 := f27_1
    obtain ⟨cl30, Ar30, qa30, qs30, qn30, qh30, qg30⟩ := vq30
    have hin30 : ¬ ((0 : Int32) < 0 ∨ cl30.slots.size ≤ ((0 : Int32)).toNatClampNeg) := inb_of qs30 ⟨by decide, by decide⟩
    have hat30 : cl30.slots[((0 : Int32)).toNatClampNeg]? = some (.int p1) := Has.at qh30 hin30 rfl
    refine Wp.back (U' := (T26.setTop (mkF m 137 #[.val (.int p0), .val (.int p1), .val (.int p2), .val (.int p3), .val (.int p4), .val (.int (2 : Int32)), .val (.ref b20), .val (.ref b26_0), .val (.long (1 : Int64)), .second, .val (.long ((1 : Int64) + (p1).toInt64)), .second, .val (.long (((1 : Int64) + (p1).toInt64) + (p2).toInt64)), .second, .val (.long ((((1 : Int64) + (p1).toInt64) + (p2).toInt64) + (p3).toInt64)), .second, .val (.int (1 : Int32))] [(.int p1)]))) (fun t k => X26.iaload hx (j := (0 : Int32)) (v := (.int p1)) Ar30.1 (State.isArrayOf_alike hZ.alike Ar30.2.1) Ar30.2.2 hin30 hat30 (g := (mkF m 136 #[.val (.int p0), .val (.int p1), .val (.int p2), .val (.int p3), .val (.int p4), .val (.int (2 : Int32)), .val (.ref b20), .val (.ref b26_0), .val (.long (1 : Int64)), .second, .val (.long ((1 : Int64) + (p1).toInt64)), .second, .val (.long (((1 : Int64) + (p1).toInt64) + (p2).toInt64)), .second, .val (.long ((((1 : Int64) + (p1).toInt64) + (p2).toInt64) + (p3).toInt64)), .second, .val (.int (1 : Int32))] [(.int (0 : Int32)), (.ref b20)])) rfl rfl (hb hby at_136) t k) ?_
    refine Wp.back (U' := (T26.setTop (mkF m 162 #[.val (.int p0), .val (.int p1), .val (.int p2), .val (.int p3), .val (.int p4), .val (.int (2 : Int32)), .val (.ref b20), .val (.ref b26_0), .val (.long (1 : Int64)), .second, .val (.long ((1 : Int64) + (p1).toInt64)), .second, .val (.long (((1 : Int64) + (p1).toInt64) + (p2).toInt64)), .second, .val (.long ((((1 : Int64) + (p1).toInt64) + (p2).toInt64) + (p3).toInt64)), .second, .val (.int (1 : Int32))] [(.int (1 : Int32)), (.ref b26_0)]))) (fun t k => XS.iloadN X26.here hx rfl (hb hby at_137) rfl (XS.icmpNo X26.here hx rfl (hb hby at_138) rfl (teq (rfl : p1 = p1)).2 (XT.iconstV X26.here hx rfl (1 : Int32) (hb hby at_141) (by decide) (XS.goto X26.here hx rfl (pc0 := 142) (pc' := 146) rfl (hb hby at_142) (by decide) (by decide) (XS.istore X26.here hx rfl (hb hby at_146) rfl (l' := #[.val (.int p0), .val (.int p1), .val (.int p2), .val (.int p3), .val (.int p4), .val (.int (2 : Int32)), .val (.ref b20), .val (.ref b26_0), .val (.long (1 : Int64)), .second, .val (.long ((1 : Int64) + (p1).toInt64)), .second, .val (.long (((1 : Int64) + (p1).toInt64) + (p2).toInt64)), .second, .val (.long ((((1 : Int64) + (p1).toInt64) + (p2).toInt64) + (p3).toInt64)), .second, .val (.int (1 : Int32))]) rfl (XS.iload X26.here hx rfl (hb hby at_148) rfl (XT.iconstV X26.here hx rfl (1 : Int32) (hb hby at_150) (by decide) (XS.icmpNo X26.here hx rfl (hb hby at_151) rfl (tlt (by decide)).2.2.2 (XS.iload X26.here hx rfl (hb hby at_154) rfl (XS.ifNo X26.here hx rfl (hb hby at_156) rfl ((if0 _ _).trans (feq (by decide)).1) (XS.aload X26.here hx rfl (hb hby at_159) rfl rfl (XT.iconstV X26.here hx rfl (1 : Int32) (hb hby at_161) (by decide) k)))))))))))) ?_
    have vq31 := o26_0
    obtain ⟨cl31, Ar31, qa31, qs31, qn31, qh31, qg31⟩ := vq31
    have hin31 : ¬ ((1 : Int32) < 0 ∨ cl31.slots.size ≤ ((1 : Int32)).toNatClampNeg) := inb_of qs31 ⟨by decide, by decide⟩
    have hat31 : cl31.slots[((1 : Int32)).toNatClampNeg]? = some (.long ((1 : Int64) + (p1).toInt64)) := Has.at qh31 hin31 rfl
    refine Wp.back (U' := (T26.setTop (mkF m 163 #[.val (.int p0), .val (.int p1), .val (.int p2), .val (.int p3), .val (.int p4), .val (.int (2 : Int32)), .val (.ref b20), .val (.ref b26_0), .val (.long (1 : Int64)), .second, .val (.long ((1 : Int64) + (p1).toInt64)), .second, .val (.long (((1 : Int64) + (p1).toInt64) + (p2).toInt64)), .second, .val (.long ((((1 : Int64) + (p1).toInt64) + (p2).toInt64) + (p3).toInt64)), .second, .val (.int (1 : Int32))] [(.long ((1 : Int64) + (p1).toInt64))]))) (fun t k => X26.laload hx (j := (1 : Int32)) (v := (.long ((1 : Int64) + (p1).toInt64))) Ar31.1 (State.isArrayOf_alike hZ.alike Ar31.2.1) Ar31.2.2 hin31 hat31 (g := (mkF m 162 #[.val (.int p0), .val (.int p1), .val (.int p2), .val (.int p3), .val (.int p4), .val (.int (2 : Int32)), .val (.ref b20), .val (.ref b26_0), .val (.long (1 : Int64)), .second, .val (.long ((1 : Int64) + (p1).toInt64)), .second, .val (.long (((1 : Int64) + (p1).toInt64) + (p2).toInt64)), .second, .val (.long ((((1 : Int64) + (p1).toInt64) + (p2).toInt64) + (p3).toInt64)), .second, .val (.int (1 : Int32))] [(.int (1 : Int32)), (.ref b26_0)])) rfl rfl (hb hby at_162) t k) ?_
    refine Wp.back (U' := (T26.setTop (mkF m 172 #[.val (.int p0), .val (.int p1), .val (.int p2), .val (.int p3), .val (.int p4), .val (.int (2 : Int32)), .val (.ref b20), .val (.ref b26_0), .val (.long (1 : Int64)), .second, .val (.long ((1 : Int64) + (p1).toInt64)), .second, .val (.long (((1 : Int64) + (p1).toInt64) + (p2).toInt64)), .second, .val (.long ((((1 : Int64) + (p1).toInt64) + (p2).toInt64) + (p3).toInt64)), .second, .val (.int (1 : Int32))] [(.int (1 : Int32)), (.ref b20)]))) (fun t k => XS.lload X26.here hx rfl (hb hby at_163) rfl (XS.lcmp X26.here hx rfl (hb hby at_165) rfl (XS.ifNo X26.here hx rfl (hb hby at_166) rfl ((if0 _ _).trans (teq ((lw_eq ((1 : Int64) + (p1).toInt64) ((1 : Int64) + (p1).toInt64)).mpr (rfl : ((1 : Int64) + (p1).toInt64) = ((1 : Int64) + (p1).toInt64)))).2) (XS.aload X26.here hx rfl (hb hby at_169) rfl rfl (XT.iconstV X26.here hx rfl (1 : Int32) (hb hby at_171) (by decide) k))))) ?_
    have vq32 := f27_1
    obtain ⟨cl32, Ar32, qa32, qs32, qn32, qh32, qg32⟩ := vq32
    have hin32 : ¬ ((1 : Int32) < 0 ∨ cl32.slots.size ≤ ((1 : Int32)).toNatClampNeg) := inb_of qs32 ⟨by decide, by decide⟩
    have hat32 : cl32.slots[((1 : Int32)).toNatClampNeg]? = some (.int p2) := Has.at qh32 hin32 rfl
    refine Wp.back (U' := (T26.setTop (mkF m 173 #[.val (.int p0), .val (.int p1), .val (.int p2), .val (.int p3), .val (.int p4), .val (.int (2 : Int32)), .val (.ref b20), .val (.ref b26_0), .val (.long (1 : Int64)), .second, .val (.long ((1 : Int64) + (p1).toInt64)), .second, .val (.long (((1 : Int64) + (p1).toInt64) + (p2).toInt64)), .second, .val (.long ((((1 : Int64) + (p1).toInt64) + (p2).toInt64) + (p3).toInt64)), .second, .val (.int (1 : Int32))] [(.int p2)]))) (fun t k => X26.iaload hx (j := (1 : Int32)) (v := (.int p2)) Ar32.1 (State.isArrayOf_alike hZ.alike Ar32.2.1) Ar32.2.2 hin32 hat32 (g := (mkF m 172 #[.val (.int p0), .val (.int p1), .val (.int p2), .val (.int p3), .val (.int p4), .val (.int (2 : Int32)), .val (.ref b20), .val (.ref b26_0), .val (.long (1 : Int64)), .second, .val (.long ((1 : Int64) + (p1).toInt64)), .second, .val (.long (((1 : Int64) + (p1).toInt64) + (p2).toInt64)), .second, .val (.long ((((1 : Int64) + (p1).toInt64) + (p2).toInt64) + (p3).toInt64)), .second, .val (.int (1 : Int32))] [(.int (1 : Int32)), (.ref b20)])) rfl rfl (hb hby at_172) t k) ?_
    refine Wp.back (U' := (T26.setTop (mkF m 259 #[.val (.int p0), .val (.int p1), .val (.int p2), .val (.int p3), .val (.int p4), .val (.int (2 : Int32)), .val (.ref b20), .val (.ref b26_0), .val (.long (1 : Int64)), .second, .val (.long ((1 : Int64) + (p1).toInt64)), .second, .val (.long (((1 : Int64) + (p1).toInt64) + (p2).toInt64)), .second, .val (.long ((((1 : Int64) + (p1).toInt64) + (p2).toInt64) + (p3).toInt64)), .second, .val (.int (1 : Int32))] [(.int (1 : Int32))]))) (fun t k => XS.iloadN X26.here hx rfl (hb hby at_173) rfl (XS.icmpNo X26.here hx rfl (hb hby at_174) rfl (teq (rfl : p2 = p2)).2 (XT.iconstV X26.here hx rfl (1 : Int32) (hb hby at_177) (by decide) (XS.goto X26.here hx rfl (pc0 := 178) (pc' := 182) rfl (hb hby at_178) (by decide) (by decide) (XS.istore X26.here hx rfl (hb hby at_182) rfl (l' := #[.val (.int p0), .val (.int p1), .val (.int p2), .val (.int p3), .val (.int p4), .val (.int (2 : Int32)), .val (.ref b20), .val (.ref b26_0), .val (.long (1 : Int64)), .second, .val (.long ((1 : Int64) + (p1).toInt64)), .second, .val (.long (((1 : Int64) + (p1).toInt64) + (p2).toInt64)), .second, .val (.long ((((1 : Int64) + (p1).toInt64) + (p2).toInt64) + (p3).toInt64)), .second, .val (.int (1 : Int32))]) rfl (XS.iload X26.here hx rfl (hb hby at_184) rfl (XT.iconstV X26.here hx rfl (2 : Int32) (hb hby at_186) (by decide) (XS.icmpYes X26.here hx rfl (pc0 := 187) (pc' := 220) rfl (hb hby at_187) rfl (flt (by decide)).2.2.2 (by decide) (by decide) (XS.iload X26.here hx rfl (hb hby at_220) rfl (XT.iconstV X26.here hx rfl (3 : Int32) (hb hby at_222) (by decide) (XS.icmpYes X26.here hx rfl (pc0 := 223) (pc' := 257) rfl (hb hby at_223) rfl (flt (by decide)).2.2.2 (by decide) (by decide) (XS.iload X26.here hx rfl (hb hby at_257) rfl k)))))))))))) ?_
    obtain ⟨fs, hr, hrun, hended, hW, hsame⟩ := X26.leave (v := (some (.int (1 : Int32)))) (fun h => by rw [hret] at h; cases h)
    refine Wp.done (retN X26 hx (t := .boolean) hret (by simp) (hb hby at_259) hr) hrun hended ⟨_, _, rfl, ?_, ⟨_, rfl⟩, hW, hsame.mono (by decide) (by decide)⟩
    show QL n0 _ T26.heap _
    exact ⟨rfl, N26⟩
  · rw [hk4]
    refine Wp.back (U' := (s₁.setTop (mkF m 10 #[.val (.int p0), .val (.int p1), .val (.int p2), .val (.int p3), .val (.int p4), .val (.int (3 : Int32)), .unset, .unset, .unset, .unset, .unset, .unset, .unset, .unset, .unset, .unset, .unset] [(.int (3 : Int32))]))) (fun t k => XS.iload X0.here hx rfl (hb hby at_8) rfl k) ?_
    obtain ⟨T33, h33, k33, X33, e33, E33, A33, st33⟩ := newP X0 hx hZ (hw _ (List.mem_of_getElem? (i := 1) rfl)) e0 (g := (mkF m 10 #[.val (.int p0), .val (.int p1), .val (.int p2), .val (.int p3), .val (.int p4), .val (.int (3 : Int32)), .unset, .unset, .unset, .unset, .unset, .unset, .unset, .unset, .unset, .unset, .unset] [(.int (3 : Int32))])) rfl (hb hby at_10) rfl (by decide) (cap := 3) (by decide) (by decide) (by decide) (by decide)
    obtain ⟨b33, g33⟩ : ∃ z, z = h0.size := ⟨_, rfl⟩
    rw [← g33] at A33 st33
    have g_b33 : n0 ≤ b33 := Nat.le_trans Z0 (Nat.le_of_eq g33.symm)
    have f34_0 := Nat.le_trans Z0 E33.1
    have V33 : Arv Z h33 b33 k33 .int (3 : Int32) [(.int (0 : Int32)), (.int (0 : Int32)), (.int (0 : Int32))] (.int (0 : Int32)) := (Arv.new A33 (by decide)).pad (pad_rep [] (.int (0 : Int32)) 3)
    refine Wp.back (U' := (T33.setTop (mkF m 12 #[.val (.int p0), .val (.int p1), .val (.int p2), .val (.int p3), .val (.int p4), .val (.int (3 : Int32)), .unset, .unset, .unset, .unset, .unset, .unset, .unset, .unset, .unset, .unset, .unset] [(.ref b33)]))) st33 ?_
    refine Wp.back (U' := (T33.setTop (mkF m 23 #[.val (.int p0), .val (.int p1), .val (.int p2), .val (.int p3), .val (.int p4), .val (.int (3 : Int32)), .val (.ref b33), .unset, .unset, .unset, .unset, .unset, .unset, .unset, .unset, .unset, .unset] [(.int p1), (.int (0 : Int32)), (.ref b33)]))) (fun t k => XS.astore X33.here hx rfl (hb hby at_12) rfl rfl (l' := #[.val (.int p0), .val (.int p1), .val (.int p2), .val (.int p3), .val (.int p4), .val (.int (3 : Int32)), .val (.ref b33), .unset, .unset, .unset, .unset, .unset, .unset, .unset, .unset, .unset, .unset]) rfl (XS.iload X33.here hx rfl (hb hby at_14) rfl (XS.ifNo X33.here hx rfl (hb hby at_16) rfl ((if0 _ _).trans (tlt (by decide)).2.2.2) (XS.aload X33.here hx rfl (hb hby at_19) rfl rfl (XT.iconstV X33.here hx rfl (0 : Int32) (hb hby at_21) (by decide) (XS.iloadN X33.here hx rfl (hb hby at_22) rfl k)))))) ?_
    have vq35 := V33
    obtain ⟨cl35, Ar35, qa35, qs35, qn35, qh35, qg35⟩ := vq35
    have hin35 : ¬ ((0 : Int32) < 0 ∨ cl35.slots.size ≤ ((0 : Int32)).toNatClampNeg) := inb_of qs35 ⟨by decide, by decide⟩
    obtain ⟨T35, h35, X35, e35, W35, st35⟩ := stI X33 hx hZ e33 Ar35 (j := (0 : Int32)) hin35 (g := (mkF m 23 #[.val (.int p0), .val (.int p1), .val (.int p2), .val (.int p3), .val (.int p4), .val (.int (3 : Int32)), .val (.ref b33), .unset, .unset, .unset, .unset, .unset, .unset, .unset, .unset, .unset, .unset] [(.int p1), (.int (0 : Int32)), (.ref b33)])) rfl rfl (hb hby at_23)
    have V35 : Arv Z h35 b33 k33 .int (3 : Int32) [(.int p1), (.int (0 : Int32)), (.int (0 : Int32))] (.int (0 : Int32)) := Arv.set Ar35 qa35 qs35 qn35 qh35 qg35 rfl W35 0 rfl (Nat.le_of_ble_eq_true rfl)
    have f36_0 := Nat.le_trans f34_0 (Keep.of_wr W35).1
    have N35 := Fr.snoc X35 N0 g_b33
    refine Wp.back (U' := (T35.setTop (mkF m 24 #[.val (.int p0), .val (.int p1), .val (.int p2), .val (.int p3), .val (.int p4), .val (.int (3 : Int32)), .val (.ref b33), .unset, .unset, .unset, .unset, .unset, .unset, .unset, .unset, .unset, .unset] []))) st35 ?_
    refine Wp.back (U' := (T35.setTop (mkF m 34 #[.val (.int p0), .val (.int p1), .val (.int p2), .val (.int p3), .val (.int p4), .val (.int (3 : Int32)), .val (.ref b33), .unset, .unset, .unset, .unset, .unset, .unset, .unset, .unset, .unset, .unset] [(.int p2), (.int (1 : Int32)), (.ref b33)]))) (fun t k => XS.iload X35.here hx rfl (hb hby at_24) rfl (XT.iconstV X35.here hx rfl (1 : Int32) (hb hby at_26) (by decide) (XS.icmpNo X35.here hx rfl (hb hby at_27) rfl (tlt (by decide)).2.2.2 (XS.aload X35.here hx rfl (hb hby at_30) rfl rfl (XT.iconstV X35.here hx rfl (1 : Int32) (hb hby at_32) (by decide) (XS.iloadN X35.here hx rfl (hb hby at_33) rfl k)))))) ?_
    have vq37 := V35
    obtain ⟨cl37, Ar37, qa37, qs37, qn37, qh37, qg37⟩ := vq37
    have hin37 : ¬ ((1 : Int32) < 0 ∨ cl37.slots.size ≤ ((1 : Int32)).toNatClampNeg) := inb_of qs37 ⟨by decide, by decide⟩
    obtain ⟨T37, h37, X37, e37, W37, st37⟩ := stI X35 hx hZ e35 Ar37 (j := (1 : Int32)) hin37 (g := (mkF m 34 #[.val (.int p0), .val (.int p1), .val (.int p2), .val (.int p3), .val (.int p4), .val (.int (3 : Int32)), .val (.ref b33), .unset, .unset, .unset, .unset, .unset, .unset, .unset, .unset, .unset, .unset] [(.int p2), (.int (1 : Int32)), (.ref b33)])) rfl rfl (hb hby at_34)
    have V37 : Arv Z h37 b33 k33 .int (3 : Int32) [(.int p1), (.int p2), (.int (0 : Int32))] (.int (0 : Int32)) := Arv.set Ar37 qa37 qs37 qn37 qh37 qg37 rfl W37 1 rfl (Nat.le_of_ble_eq_true rfl)
    have f38_0 := Nat.le_trans f36_0 (Keep.of_wr W37).1
    have N37 := Fr.snoc X37 N35 g_b33
    refine Wp.back (U' := (T37.setTop (mkF m 35 #[.val (.int p0), .val (.int p1), .val (.int p2), .val (.int p3), .val (.int p4), .val (.int (3 : Int32)), .val (.ref b33), .unset, .unset, .unset, .unset, .unset, .unset, .unset, .unset, .unset, .unset] []))) st37 ?_
    refine Wp.back (U' := (T37.setTop (mkF m 45 #[.val (.int p0), .val (.int p1), .val (.int p2), .val (.int p3), .val (.int p4), .val (.int (3 : Int32)), .val (.ref b33), .unset, .unset, .unset, .unset, .unset, .unset, .unset, .unset, .unset, .unset] [(.int p3), (.int (2 : Int32)), (.ref b33)]))) (fun t k => XS.iload X37.here hx rfl (hb hby at_35) rfl (XT.iconstV X37.here hx rfl (2 : Int32) (hb hby at_37) (by decide) (XS.icmpNo X37.here hx rfl (hb hby at_38) rfl (tlt (by decide)).2.2.2 (XS.aload X37.here hx rfl (hb hby at_41) rfl rfl (XT.iconstV X37.here hx rfl (2 : Int32) (hb hby at_43) (by decide) (XS.iloadN X37.here hx rfl (hb hby at_44) rfl k)))))) ?_
    have vq39 := V37
    obtain ⟨cl39, Ar39, qa39, qs39, qn39, qh39, qg39⟩ := vq39
    have hin39 : ¬ ((2 : Int32) < 0 ∨ cl39.slots.size ≤ ((2 : Int32)).toNatClampNeg) := inb_of qs39 ⟨by decide, by decide⟩
    obtain ⟨T39, h39, X39, e39, W39, st39⟩ := stI X37 hx hZ e37 Ar39 (j := (2 : Int32)) hin39 (g := (mkF m 45 #[.val (.int p0), .val (.int p1), .val (.int p2), .val (.int p3), .val (.int p4), .val (.int (3 : Int32)), .val (.ref b33), .unset, .unset, .unset, .unset, .unset, .unset, .unset, .unset, .unset, .unset] [(.int p3), (.int (2 : Int32)), (.ref b33)])) rfl rfl (hb hby at_45)
    have V39 : Arv Z h39 b33 k33 .int (3 : Int32) [(.int p1), (.int p2), (.int p3)] (.int (0 : Int32)) := Arv.set Ar39 qa39 qs39 qn39 qh39 qg39 rfl W39 2 rfl (Nat.le_of_ble_eq_true rfl)
    have f40_0 := Nat.le_trans f38_0 (Keep.of_wr W39).1
    have N39 := Fr.snoc X39 N37 g_b33
    refine Wp.back (U' := (T39.setTop (mkF m 46 #[.val (.int p0), .val (.int p1), .val (.int p2), .val (.int p3), .val (.int p4), .val (.int (3 : Int32)), .val (.ref b33), .unset, .unset, .unset, .unset, .unset, .unset, .unset, .unset, .unset, .unset] []))) st39 ?_
    refine Wp.back (U' := (T39.setTop (mkF m 60 #[.val (.int p0), .val (.int p1), .val (.int p2), .val (.int p3), .val (.int p4), .val (.int (3 : Int32)), .val (.ref b33), .unset, .unset, .unset, .unset, .unset, .unset, .unset, .unset, .unset, .unset] [(.ref b33)]))) (fun t k => XS.iload X39.here hx rfl (hb hby at_46) rfl (XT.iconstV X39.here hx rfl (3 : Int32) (hb hby at_48) (by decide) (XS.icmpYes X39.here hx rfl (pc0 := 49) (pc' := 58) rfl (hb hby at_49) rfl (flt (by decide)).2.2.2 (by decide) (by decide) (XS.aload X39.here hx rfl (hb hby at_58) rfl rfl k)))) ?_
    obtain ⟨_, _, ⟨T41, L41, k41, n41⟩, -, X41, ⟨Lc41, hQ41, l41, y41, z41⟩, st41⟩ := Jvm.LawKit.callS X39 hx (y := (⟨"com/example/mill_river/millriver/index/Index", "documentStarts", "([I)[J"⟩ : MethodName)) hown (mvT hZ (hw _ (List.mem_of_getElem? (i := 2) rfl))) (mvT hZ (hw _ (List.mem_of_getElem? (i := 3) rfl))) (mvT hZ (hw _ (List.mem_of_getElem? (i := 4) rfl))) (mvT hZ (hw _ (List.mem_of_getElem? (i := 5) rfl))) (by decide) (backOf (W := 0) (rm_ds3 l Z a0 hw [] b33 k33 p1 p2 p3 h39 n0 f40_0 V39) hZ (hw _ (List.mem_of_getElem? (i := 5) rfl)) (hw _ (List.mem_of_getElem? (i := 4) rfl)) (by decide) (by decide)) (g := (mkF m 60 #[.val (.int p0), .val (.int p1), .val (.int p2), .val (.int p3), .val (.int p4), .val (.int (3 : Int32)), .val (.ref b33), .unset, .unset, .unset, .unset, .unset, .unset, .unset, .unset, .unset, .unset] [(.ref b33)])) rfl (by rw [hml]; rfl) (argsL := [(.ref b33)]) (rest := []) (lenOf pd0_0 rfl) rfl (by show 2 * 0 + _ ≤ _; exact Nat.le_of_eq rfl) (hb hby at_60) (fun _ _ => ⟨rfl, e39, (by decide : 1 + 1 ≤ _), (by decide : 3 + 3 ≤ _)⟩)
    dsimp only [Pt.U, Pt.locs, Pt.cells, Pt.slots] at X41 l41 y41 z41 st41 hQ41
    subst l41 y41 z41
    obtain ⟨b41_0, k41_0, rfl, N41q, K41, sf41_0, o41_0⟩ := hQ41
    have ne_b33_b41_0 : b33 ≠ b41_0 := Nat.ne_of_lt (Nat.lt_of_lt_of_le V39.lt sf41_0)
    have g_b41_0 : n0 ≤ b41_0 := Nat.le_trans f40_0 sf41_0
    have f42_0 := Nat.le_trans f40_0 K41.1
    have f42_1 := V39.keep K41 nin0
    have N41 := Fr.app N39 N41q
    refine Wp.back (U' := (T41.setTop (mkF m 63 #[.val (.int p0), .val (.int p1), .val (.int p2), .val (.int p3), .val (.int p4), .val (.int (3 : Int32)), .val (.ref b33), .unset, .unset, .unset, .unset, .unset, .unset, .unset, .unset, .unset, .unset] [(.ref b41_0)]))) st41 ?_
    refine Wp.back (U' := (T41.setTop (mkF m 72 #[.val (.int p0), .val (.int p1), .val (.int p2), .val (.int p3), .val (.int p4), .val (.int (3 : Int32)), .val (.ref b33), .val (.ref b41_0), .unset, .unset, .unset, .unset, .unset, .unset, .unset, .unset, .unset] [(.ref b41_0)]))) (fun t k => XS.astore X41.here hx rfl (hb hby at_63) rfl rfl (l' := #[.val (.int p0), .val (.int p1), .val (.int p2), .val (.int p3), .val (.int p4), .val (.int (3 : Int32)), .val (.ref b33), .val (.ref b41_0), .unset, .unset, .unset, .unset, .unset, .unset, .unset, .unset, .unset]) rfl (XS.aload X41.here hx rfl (hb hby at_65) rfl rfl (XS.ifnullNo X41.here hx rfl (hb hby at_67) rfl (XS.aload X41.here hx rfl (hb hby at_70) rfl rfl k)))) ?_
    have vq43 := o41_0
    obtain ⟨cl43, Ar43, -, qs43, qn43, -, -⟩ := vq43
    refine Wp.back (U' := (T41.setTop (mkF m 73 #[.val (.int p0), .val (.int p1), .val (.int p2), .val (.int p3), .val (.int p4), .val (.int (3 : Int32)), .val (.ref b33), .val (.ref b41_0), .unset, .unset, .unset, .unset, .unset, .unset, .unset, .unset, .unset] [(.int (3 : Int32))]))) (fun t k => X41.arraylength hx Ar43.1 (State.isArrayOf_alike hZ.alike Ar43.2.1) (g := (mkF m 72 #[.val (.int p0), .val (.int p1), .val (.int p2), .val (.int p3), .val (.int p4), .val (.int (3 : Int32)), .val (.ref b33), .val (.ref b41_0), .unset, .unset, .unset, .unset, .unset, .unset, .unset, .unset, .unset] [(.ref b41_0)])) rfl rfl (hb hby at_72) t (by rw [len_of qs43 qn43]; exact k)) ?_
    refine Wp.back (U' := (T41.setTop (mkF m 92 #[.val (.int p0), .val (.int p1), .val (.int p2), .val (.int p3), .val (.int p4), .val (.int (3 : Int32)), .val (.ref b33), .val (.ref b41_0), .val (.long (1 : Int64)), .second, .val (.long ((1 : Int64) + (p1).toInt64)), .second, .unset, .unset, .unset, .unset, .unset] [(.long (p1).toInt64), (.long (1 : Int64))]))) (fun t k => XS.iload X41.here hx rfl (hb hby at_73) rfl (XS.icmpYes X41.here hx rfl (pc0 := 75) (pc' := 80) rfl (hb hby at_75) rfl (teq (by decide)).1 (by decide) (by decide) (XT.lconstV X41.here hx rfl (1 : Int64) (hb hby at_80) (by decide) (XS.lstore X41.here hx rfl (hb hby at_81) rfl (l' := #[.val (.int p0), .val (.int p1), .val (.int p2), .val (.int p3), .val (.int p4), .val (.int (3 : Int32)), .val (.ref b33), .val (.ref b41_0), .val (.long (1 : Int64)), .second, .unset, .unset, .unset, .unset, .unset, .unset, .unset]) rfl (XT.lconstV X41.here hx rfl (1 : Int64) (hb hby at_83) (by decide) (XS.iloadN X41.here hx rfl (hb hby at_84) rfl (XS.i2l X41.here hx rfl (hb hby at_85) rfl (XS.ladd X41.here hx rfl (hb hby at_86) rfl (XS.lstore X41.here hx rfl (hb hby at_87) rfl (l' := #[.val (.int p0), .val (.int p1), .val (.int p2), .val (.int p3), .val (.int p4), .val (.int (3 : Int32)), .val (.ref b33), .val (.ref b41_0), .val (.long (1 : Int64)), .second, .val (.long ((1 : Int64) + (p1).toInt64)), .second, .unset, .unset, .unset, .unset, .unset]) rfl (XT.lconstV X41.here hx rfl (1 : Int64) (hb hby at_89) (by decide) (XS.iloadN X41.here hx rfl (hb hby at_90) rfl (XS.i2l X41.here hx rfl (hb hby at_91) rfl k)))))))))))) ?_
    refine Wp.back (U' := (T41.setTop (mkF m 105 #[.val (.int p0), .val (.int p1), .val (.int p2), .val (.int p3), .val (.int p4), .val (.int (3 : Int32)), .val (.ref b33), .val (.ref b41_0), .val (.long (1 : Int64)), .second, .val (.long ((1 : Int64) + (p1).toInt64)), .second, .val (.long (((1 : Int64) + (p1).toInt64) + (p2).toInt64)), .second, .unset, .unset, .unset] [(.long (((1 : Int64) + (p1).toInt64) + (p2).toInt64))]))) (fun t k => XS.ladd X41.here hx rfl (hb hby at_92) rfl (XS.iloadN X41.here hx rfl (hb hby at_93) rfl (XS.i2l X41.here hx rfl (hb hby at_94) rfl (XS.ladd X41.here hx rfl (hb hby at_95) rfl (XS.lstore X41.here hx rfl (hb hby at_96) rfl (l' := #[.val (.int p0), .val (.int p1), .val (.int p2), .val (.int p3), .val (.int p4), .val (.int (3 : Int32)), .val (.ref b33), .val (.ref b41_0), .val (.long (1 : Int64)), .second, .val (.long ((1 : Int64) + (p1).toInt64)), .second, .val (.long (((1 : Int64) + (p1).toInt64) + (p2).toInt64)), .second, .unset, .unset, .unset]) rfl (XT.lconstV X41.here hx rfl (1 : Int64) (hb hby at_98) (by decide) (XS.iloadN X41.here hx rfl (hb hby at_99) rfl (XS.i2l X41.here hx rfl (hb hby at_100) rfl (XS.ladd X41.here hx rfl (hb hby at_101) rfl (XS.iloadN X41.here hx rfl (hb hby at_102) rfl (XS.i2l X41.here hx rfl (hb hby at_103) rfl (XS.ladd X41.here hx rfl (hb hby at_104) rfl k)))))))))))) ?_
    refine Wp.back (U' := (T41.setTop (mkF m 126 #[.val (.int p0), .val (.int p1), .val (.int p2), .val (.int p3), .val (.int p4), .val (.int (3 : Int32)), .val (.ref b33), .val (.ref b41_0), .val (.long (1 : Int64)), .second, .val (.long ((1 : Int64) + (p1).toInt64)), .second, .val (.long (((1 : Int64) + (p1).toInt64) + (p2).toInt64)), .second, .val (.long ((((1 : Int64) + (p1).toInt64) + (p2).toInt64) + (p3).toInt64)), .second, .val (.int (1 : Int32))] [(.int (0 : Int32)), (.ref b41_0)]))) (fun t k => XS.iloadN X41.here hx rfl (hb hby at_105) rfl (XS.i2l X41.here hx rfl (hb hby at_106) rfl (XS.ladd X41.here hx rfl (hb hby at_107) rfl (XS.lstore X41.here hx rfl (hb hby at_108) rfl (l' := #[.val (.int p0), .val (.int p1), .val (.int p2), .val (.int p3), .val (.int p4), .val (.int (3 : Int32)), .val (.ref b33), .val (.ref b41_0), .val (.long (1 : Int64)), .second, .val (.long ((1 : Int64) + (p1).toInt64)), .second, .val (.long (((1 : Int64) + (p1).toInt64) + (p2).toInt64)), .second, .val (.long ((((1 : Int64) + (p1).toInt64) + (p2).toInt64) + (p3).toInt64)), .second, .unset]) rfl (XT.iconstV X41.here hx rfl (1 : Int32) (hb hby at_110) (by decide) (XS.istore X41.here hx rfl (hb hby at_111) rfl (l' := #[.val (.int p0), .val (.int p1), .val (.int p2), .val (.int p3), .val (.int p4), .val (.int (3 : Int32)), .val (.ref b33), .val (.ref b41_0), .val (.long (1 : Int64)), .second, .val (.long ((1 : Int64) + (p1).toInt64)), .second, .val (.long (((1 : Int64) + (p1).toInt64) + (p2).toInt64)), .second, .val (.long ((((1 : Int64) + (p1).toInt64) + (p2).toInt64) + (p3).toInt64)), .second, .val (.int (1 : Int32))]) rfl (XS.iload X41.here hx rfl (hb hby at_113) rfl (XS.ifNo X41.here hx rfl (hb hby at_115) rfl ((if0 _ _).trans (tlt (by decide)).2.2.2) (XS.iload X41.here hx rfl (hb hby at_118) rfl (XS.ifNo X41.here hx rfl (hb hby at_120) rfl ((if0 _ _).trans (feq (by decide)).1) (XS.aload X41.here hx rfl (hb hby at_123) rfl rfl (XT.iconstV X41.here hx rfl (0 : Int32) (hb hby at_125) (by decide) k)))))))))))) ?_
    have vq44 := o41_0
    obtain ⟨cl44, Ar44, qa44, qs44, qn44, qh44, qg44⟩ := vq44
    have hin44 : ¬ ((0 : Int32) < 0 ∨ cl44.slots.size ≤ ((0 : Int32)).toNatClampNeg) := inb_of qs44 ⟨by decide, by decide⟩
    have hat44 : cl44.slots[((0 : Int32)).toNatClampNeg]? = some (.long (1 : Int64)) := Has.at qh44 hin44 rfl
    refine Wp.back (U' := (T41.setTop (mkF m 127 #[.val (.int p0), .val (.int p1), .val (.int p2), .val (.int p3), .val (.int p4), .val (.int (3 : Int32)), .val (.ref b33), .val (.ref b41_0), .val (.long (1 : Int64)), .second, .val (.long ((1 : Int64) + (p1).toInt64)), .second, .val (.long (((1 : Int64) + (p1).toInt64) + (p2).toInt64)), .second, .val (.long ((((1 : Int64) + (p1).toInt64) + (p2).toInt64) + (p3).toInt64)), .second, .val (.int (1 : Int32))] [(.long (1 : Int64))]))) (fun t k => X41.laload hx (j := (0 : Int32)) (v := (.long (1 : Int64))) Ar44.1 (State.isArrayOf_alike hZ.alike Ar44.2.1) Ar44.2.2 hin44 hat44 (g := (mkF m 126 #[.val (.int p0), .val (.int p1), .val (.int p2), .val (.int p3), .val (.int p4), .val (.int (3 : Int32)), .val (.ref b33), .val (.ref b41_0), .val (.long (1 : Int64)), .second, .val (.long ((1 : Int64) + (p1).toInt64)), .second, .val (.long (((1 : Int64) + (p1).toInt64) + (p2).toInt64)), .second, .val (.long ((((1 : Int64) + (p1).toInt64) + (p2).toInt64) + (p3).toInt64)), .second, .val (.int (1 : Int32))] [(.int (0 : Int32)), (.ref b41_0)])) rfl rfl (hb hby at_126) t k) ?_
    refine Wp.back (U' := (T41.setTop (mkF m 136 #[.val (.int p0), .val (.int p1), .val (.int p2), .val (.int p3), .val (.int p4), .val (.int (3 : Int32)), .val (.ref b33), .val (.ref b41_0), .val (.long (1 : Int64)), .second, .val (.long ((1 : Int64) + (p1).toInt64)), .second, .val (.long (((1 : Int64) + (p1).toInt64) + (p2).toInt64)), .second, .val (.long ((((1 : Int64) + (p1).toInt64) + (p2).toInt64) + (p3).toInt64)), .second, .val (.int (1 : Int32))] [(.int (0 : Int32)), (.ref b33)]))) (fun t k => XS.lload X41.here hx rfl (hb hby at_127) rfl (XS.lcmp X41.here hx rfl (hb hby at_129) rfl (XS.ifNo X41.here hx rfl (hb hby at_130) rfl ((if0 _ _).trans (teq ((lw_eq (1 : Int64) (1 : Int64)).mpr (by decide))).2) (XS.aload X41.here hx rfl (hb hby at_133) rfl rfl (XT.iconstV X41.here hx rfl (0 : Int32) (hb hby at_135) (by decide) k))))) ?_
    have vq45 := f42_1
    obtain ⟨cl45, Ar45, qa45, qs45, qn45, qh45, qg45⟩ := vq45
    have hin45 : ¬ ((0 : Int32) < 0 ∨ cl45.slots.size ≤ ((0 : Int32)).toNatClampNeg) := inb_of qs45 ⟨by decide, by decide⟩
    have hat45 : cl45.slots[((0 : Int32)).toNatClampNeg]? = some (.int p1) := Has.at qh45 hin45 rfl
    refine Wp.back (U' := (T41.setTop (mkF m 137 #[.val (.int p0), .val (.int p1), .val (.int p2), .val (.int p3), .val (.int p4), .val (.int (3 : Int32)), .val (.ref b33), .val (.ref b41_0), .val (.long (1 : Int64)), .second, .val (.long ((1 : Int64) + (p1).toInt64)), .second, .val (.long (((1 : Int64) + (p1).toInt64) + (p2).toInt64)), .second, .val (.long ((((1 : Int64) + (p1).toInt64) + (p2).toInt64) + (p3).toInt64)), .second, .val (.int (1 : Int32))] [(.int p1)]))) (fun t k => X41.iaload hx (j := (0 : Int32)) (v := (.int p1)) Ar45.1 (State.isArrayOf_alike hZ.alike Ar45.2.1) Ar45.2.2 hin45 hat45 (g := (mkF m 136 #[.val (.int p0), .val (.int p1), .val (.int p2), .val (.int p3), .val (.int p4), .val (.int (3 : Int32)), .val (.ref b33), .val (.ref b41_0), .val (.long (1 : Int64)), .second, .val (.long ((1 : Int64) + (p1).toInt64)), .second, .val (.long (((1 : Int64) + (p1).toInt64) + (p2).toInt64)), .second, .val (.long ((((1 : Int64) + (p1).toInt64) + (p2).toInt64) + (p3).toInt64)), .second, .val (.int (1 : Int32))] [(.int (0 : Int32)), (.ref b33)])) rfl rfl (hb hby at_136) t k) ?_
    refine Wp.back (U' := (T41.setTop (mkF m 162 #[.val (.int p0), .val (.int p1), .val (.int p2), .val (.int p3), .val (.int p4), .val (.int (3 : Int32)), .val (.ref b33), .val (.ref b41_0), .val (.long (1 : Int64)), .second, .val (.long ((1 : Int64) + (p1).toInt64)), .second, .val (.long (((1 : Int64) + (p1).toInt64) + (p2).toInt64)), .second, .val (.long ((((1 : Int64) + (p1).toInt64) + (p2).toInt64) + (p3).toInt64)), .second, .val (.int (1 : Int32))] [(.int (1 : Int32)), (.ref b41_0)]))) (fun t k => XS.iloadN X41.here hx rfl (hb hby at_137) rfl (XS.icmpNo X41.here hx rfl (hb hby at_138) rfl (teq (rfl : p1 = p1)).2 (XT.iconstV X41.here hx rfl (1 : Int32) (hb hby at_141) (by decide) (XS.goto X41.here hx rfl (pc0 := 142) (pc' := 146) rfl (hb hby at_142) (by decide) (by decide) (XS.istore X41.here hx rfl (hb hby at_146) rfl (l' := #[.val (.int p0), .val (.int p1), .val (.int p2), .val (.int p3), .val (.int p4), .val (.int (3 : Int32)), .val (.ref b33), .val (.ref b41_0), .val (.long (1 : Int64)), .second, .val (.long ((1 : Int64) + (p1).toInt64)), .second, .val (.long (((1 : Int64) + (p1).toInt64) + (p2).toInt64)), .second, .val (.long ((((1 : Int64) + (p1).toInt64) + (p2).toInt64) + (p3).toInt64)), .second, .val (.int (1 : Int32))]) rfl (XS.iload X41.here hx rfl (hb hby at_148) rfl (XT.iconstV X41.here hx rfl (1 : Int32) (hb hby at_150) (by decide) (XS.icmpNo X41.here hx rfl (hb hby at_151) rfl (tlt (by decide)).2.2.2 (XS.iload X41.here hx rfl (hb hby at_154) rfl (XS.ifNo X41.here hx rfl (hb hby at_156) rfl ((if0 _ _).trans (feq (by decide)).1) (XS.aload X41.here hx rfl (hb hby at_159) rfl rfl (XT.iconstV X41.here hx rfl (1 : Int32) (hb hby at_161) (by decide) k)))))))))))) ?_
    have vq46 := o41_0
    obtain ⟨cl46, Ar46, qa46, qs46, qn46, qh46, qg46⟩ := vq46
    have hin46 : ¬ ((1 : Int32) < 0 ∨ cl46.slots.size ≤ ((1 : Int32)).toNatClampNeg) := inb_of qs46 ⟨by decide, by decide⟩
    have hat46 : cl46.slots[((1 : Int32)).toNatClampNeg]? = some (.long ((1 : Int64) + (p1).toInt64)) := Has.at qh46 hin46 rfl
    refine Wp.back (U' := (T41.setTop (mkF m 163 #[.val (.int p0), .val (.int p1), .val (.int p2), .val (.int p3), .val (.int p4), .val (.int (3 : Int32)), .val (.ref b33), .val (.ref b41_0), .val (.long (1 : Int64)), .second, .val (.long ((1 : Int64) + (p1).toInt64)), .second, .val (.long (((1 : Int64) + (p1).toInt64) + (p2).toInt64)), .second, .val (.long ((((1 : Int64) + (p1).toInt64) + (p2).toInt64) + (p3).toInt64)), .second, .val (.int (1 : Int32))] [(.long ((1 : Int64) + (p1).toInt64))]))) (fun t k => X41.laload hx (j := (1 : Int32)) (v := (.long ((1 : Int64) + (p1).toInt64))) Ar46.1 (State.isArrayOf_alike hZ.alike Ar46.2.1) Ar46.2.2 hin46 hat46 (g := (mkF m 162 #[.val (.int p0), .val (.int p1), .val (.int p2), .val (.int p3), .val (.int p4), .val (.int (3 : Int32)), .val (.ref b33), .val (.ref b41_0), .val (.long (1 : Int64)), .second, .val (.long ((1 : Int64) + (p1).toInt64)), .second, .val (.long (((1 : Int64) + (p1).toInt64) + (p2).toInt64)), .second, .val (.long ((((1 : Int64) + (p1).toInt64) + (p2).toInt64) + (p3).toInt64)), .second, .val (.int (1 : Int32))] [(.int (1 : Int32)), (.ref b41_0)])) rfl rfl (hb hby at_162) t k) ?_
    refine Wp.back (U' := (T41.setTop (mkF m 172 #[.val (.int p0), .val (.int p1), .val (.int p2), .val (.int p3), .val (.int p4), .val (.int (3 : Int32)), .val (.ref b33), .val (.ref b41_0), .val (.long (1 : Int64)), .second, .val (.long ((1 : Int64) + (p1).toInt64)), .second, .val (.long (((1 : Int64) + (p1).toInt64) + (p2).toInt64)), .second, .val (.long ((((1 : Int64) + (p1).toInt64) + (p2).toInt64) + (p3).toInt64)), .second, .val (.int (1 : Int32))] [(.int (1 : Int32)), (.ref b33)]))) (fun t k => XS.lload X41.here hx rfl (hb hby at_163) rfl (XS.lcmp X41.here hx rfl (hb hby at_165) rfl (XS.ifNo X41.here hx rfl (hb hby at_166) rfl ((if0 _ _).trans (teq ((lw_eq ((1 : Int64) + (p1).toInt64) ((1 : Int64) + (p1).toInt64)).mpr (rfl : ((1 : Int64) + (p1).toInt64) = ((1 : Int64) + (p1).toInt64)))).2) (XS.aload X41.here hx rfl (hb hby at_169) rfl rfl (XT.iconstV X41.here hx rfl (1 : Int32) (hb hby at_171) (by decide) k))))) ?_
    have vq47 := f42_1
    obtain ⟨cl47, Ar47, qa47, qs47, qn47, qh47, qg47⟩ := vq47
    have hin47 : ¬ ((1 : Int32) < 0 ∨ cl47.slots.size ≤ ((1 : Int32)).toNatClampNeg) := inb_of qs47 ⟨by decide, by decide⟩
    have hat47 : cl47.slots[((1 : Int32)).toNatClampNeg]? = some (.int p2) := Has.at qh47 hin47 rfl
    refine Wp.back (U' := (T41.setTop (mkF m 173 #[.val (.int p0), .val (.int p1), .val (.int p2), .val (.int p3), .val (.int p4), .val (.int (3 : Int32)), .val (.ref b33), .val (.ref b41_0), .val (.long (1 : Int64)), .second, .val (.long ((1 : Int64) + (p1).toInt64)), .second, .val (.long (((1 : Int64) + (p1).toInt64) + (p2).toInt64)), .second, .val (.long ((((1 : Int64) + (p1).toInt64) + (p2).toInt64) + (p3).toInt64)), .second, .val (.int (1 : Int32))] [(.int p2)]))) (fun t k => X41.iaload hx (j := (1 : Int32)) (v := (.int p2)) Ar47.1 (State.isArrayOf_alike hZ.alike Ar47.2.1) Ar47.2.2 hin47 hat47 (g := (mkF m 172 #[.val (.int p0), .val (.int p1), .val (.int p2), .val (.int p3), .val (.int p4), .val (.int (3 : Int32)), .val (.ref b33), .val (.ref b41_0), .val (.long (1 : Int64)), .second, .val (.long ((1 : Int64) + (p1).toInt64)), .second, .val (.long (((1 : Int64) + (p1).toInt64) + (p2).toInt64)), .second, .val (.long ((((1 : Int64) + (p1).toInt64) + (p2).toInt64) + (p3).toInt64)), .second, .val (.int (1 : Int32))] [(.int (1 : Int32)), (.ref b33)])) rfl rfl (hb hby at_172) t k) ?_
    refine Wp.back (U' := (T41.setTop (mkF m 198 #[.val (.int p0), .val (.int p1), .val (.int p2), .val (.int p3), .val (.int p4), .val (.int (3 : Int32)), .val (.ref b33), .val (.ref b41_0), .val (.long (1 : Int64)), .second, .val (.long ((1 : Int64) + (p1).toInt64)), .second, .val (.long (((1 : Int64) + (p1).toInt64) + (p2).toInt64)), .second, .val (.long ((((1 : Int64) + (p1).toInt64) + (p2).toInt64) + (p3).toInt64)), .second, .val (.int (1 : Int32))] [(.int (2 : Int32)), (.ref b41_0)]))) (fun t k => XS.iloadN X41.here hx rfl (hb hby at_173) rfl (XS.icmpNo X41.here hx rfl (hb hby at_174) rfl (teq (rfl : p2 = p2)).2 (XT.iconstV X41.here hx rfl (1 : Int32) (hb hby at_177) (by decide) (XS.goto X41.here hx rfl (pc0 := 178) (pc' := 182) rfl (hb hby at_178) (by decide) (by decide) (XS.istore X41.here hx rfl (hb hby at_182) rfl (l' := #[.val (.int p0), .val (.int p1), .val (.int p2), .val (.int p3), .val (.int p4), .val (.int (3 : Int32)), .val (.ref b33), .val (.ref b41_0), .val (.long (1 : Int64)), .second, .val (.long ((1 : Int64) + (p1).toInt64)), .second, .val (.long (((1 : Int64) + (p1).toInt64) + (p2).toInt64)), .second, .val (.long ((((1 : Int64) + (p1).toInt64) + (p2).toInt64) + (p3).toInt64)), .second, .val (.int (1 : Int32))]) rfl (XS.iload X41.here hx rfl (hb hby at_184) rfl (XT.iconstV X41.here hx rfl (2 : Int32) (hb hby at_186) (by decide) (XS.icmpNo X41.here hx rfl (hb hby at_187) rfl (tlt (by decide)).2.2.2 (XS.iload X41.here hx rfl (hb hby at_190) rfl (XS.ifNo X41.here hx rfl (hb hby at_192) rfl ((if0 _ _).trans (feq (by decide)).1) (XS.aload X41.here hx rfl (hb hby at_195) rfl rfl (XT.iconstV X41.here hx rfl (2 : Int32) (hb hby at_197) (by decide) k)))))))))))) ?_
    have vq48 := o41_0
    obtain ⟨cl48, Ar48, qa48, qs48, qn48, qh48, qg48⟩ := vq48
    have hin48 : ¬ ((2 : Int32) < 0 ∨ cl48.slots.size ≤ ((2 : Int32)).toNatClampNeg) := inb_of qs48 ⟨by decide, by decide⟩
    have hat48 : cl48.slots[((2 : Int32)).toNatClampNeg]? = some (.long (((1 : Int64) + (p1).toInt64) + (p2).toInt64)) := Has.at qh48 hin48 rfl
    refine Wp.back (U' := (T41.setTop (mkF m 199 #[.val (.int p0), .val (.int p1), .val (.int p2), .val (.int p3), .val (.int p4), .val (.int (3 : Int32)), .val (.ref b33), .val (.ref b41_0), .val (.long (1 : Int64)), .second, .val (.long ((1 : Int64) + (p1).toInt64)), .second, .val (.long (((1 : Int64) + (p1).toInt64) + (p2).toInt64)), .second, .val (.long ((((1 : Int64) + (p1).toInt64) + (p2).toInt64) + (p3).toInt64)), .second, .val (.int (1 : Int32))] [(.long (((1 : Int64) + (p1).toInt64) + (p2).toInt64))]))) (fun t k => X41.laload hx (j := (2 : Int32)) (v := (.long (((1 : Int64) + (p1).toInt64) + (p2).toInt64))) Ar48.1 (State.isArrayOf_alike hZ.alike Ar48.2.1) Ar48.2.2 hin48 hat48 (g := (mkF m 198 #[.val (.int p0), .val (.int p1), .val (.int p2), .val (.int p3), .val (.int p4), .val (.int (3 : Int32)), .val (.ref b33), .val (.ref b41_0), .val (.long (1 : Int64)), .second, .val (.long ((1 : Int64) + (p1).toInt64)), .second, .val (.long (((1 : Int64) + (p1).toInt64) + (p2).toInt64)), .second, .val (.long ((((1 : Int64) + (p1).toInt64) + (p2).toInt64) + (p3).toInt64)), .second, .val (.int (1 : Int32))] [(.int (2 : Int32)), (.ref b41_0)])) rfl rfl (hb hby at_198) t k) ?_
    refine Wp.back (U' := (T41.setTop (mkF m 208 #[.val (.int p0), .val (.int p1), .val (.int p2), .val (.int p3), .val (.int p4), .val (.int (3 : Int32)), .val (.ref b33), .val (.ref b41_0), .val (.long (1 : Int64)), .second, .val (.long ((1 : Int64) + (p1).toInt64)), .second, .val (.long (((1 : Int64) + (p1).toInt64) + (p2).toInt64)), .second, .val (.long ((((1 : Int64) + (p1).toInt64) + (p2).toInt64) + (p3).toInt64)), .second, .val (.int (1 : Int32))] [(.int (2 : Int32)), (.ref b33)]))) (fun t k => XS.lload X41.here hx rfl (hb hby at_199) rfl (XS.lcmp X41.here hx rfl (hb hby at_201) rfl (XS.ifNo X41.here hx rfl (hb hby at_202) rfl ((if0 _ _).trans (teq ((lw_eq (((1 : Int64) + (p1).toInt64) + (p2).toInt64) (((1 : Int64) + (p1).toInt64) + (p2).toInt64)).mpr (rfl : (((1 : Int64) + (p1).toInt64) + (p2).toInt64) = (((1 : Int64) + (p1).toInt64) + (p2).toInt64)))).2) (XS.aload X41.here hx rfl (hb hby at_205) rfl rfl (XT.iconstV X41.here hx rfl (2 : Int32) (hb hby at_207) (by decide) k))))) ?_
    have vq49 := f42_1
    obtain ⟨cl49, Ar49, qa49, qs49, qn49, qh49, qg49⟩ := vq49
    have hin49 : ¬ ((2 : Int32) < 0 ∨ cl49.slots.size ≤ ((2 : Int32)).toNatClampNeg) := inb_of qs49 ⟨by decide, by decide⟩
    have hat49 : cl49.slots[((2 : Int32)).toNatClampNeg]? = some (.int p3) := Has.at qh49 hin49 rfl
    refine Wp.back (U' := (T41.setTop (mkF m 209 #[.val (.int p0), .val (.int p1), .val (.int p2), .val (.int p3), .val (.int p4), .val (.int (3 : Int32)), .val (.ref b33), .val (.ref b41_0), .val (.long (1 : Int64)), .second, .val (.long ((1 : Int64) + (p1).toInt64)), .second, .val (.long (((1 : Int64) + (p1).toInt64) + (p2).toInt64)), .second, .val (.long ((((1 : Int64) + (p1).toInt64) + (p2).toInt64) + (p3).toInt64)), .second, .val (.int (1 : Int32))] [(.int p3)]))) (fun t k => X41.iaload hx (j := (2 : Int32)) (v := (.int p3)) Ar49.1 (State.isArrayOf_alike hZ.alike Ar49.2.1) Ar49.2.2 hin49 hat49 (g := (mkF m 208 #[.val (.int p0), .val (.int p1), .val (.int p2), .val (.int p3), .val (.int p4), .val (.int (3 : Int32)), .val (.ref b33), .val (.ref b41_0), .val (.long (1 : Int64)), .second, .val (.long ((1 : Int64) + (p1).toInt64)), .second, .val (.long (((1 : Int64) + (p1).toInt64) + (p2).toInt64)), .second, .val (.long ((((1 : Int64) + (p1).toInt64) + (p2).toInt64) + (p3).toInt64)), .second, .val (.int (1 : Int32))] [(.int (2 : Int32)), (.ref b33)])) rfl rfl (hb hby at_208) t k) ?_
    refine Wp.back (U' := (T41.setTop (mkF m 259 #[.val (.int p0), .val (.int p1), .val (.int p2), .val (.int p3), .val (.int p4), .val (.int (3 : Int32)), .val (.ref b33), .val (.ref b41_0), .val (.long (1 : Int64)), .second, .val (.long ((1 : Int64) + (p1).toInt64)), .second, .val (.long (((1 : Int64) + (p1).toInt64) + (p2).toInt64)), .second, .val (.long ((((1 : Int64) + (p1).toInt64) + (p2).toInt64) + (p3).toInt64)), .second, .val (.int (1 : Int32))] [(.int (1 : Int32))]))) (fun t k => XS.iloadN X41.here hx rfl (hb hby at_209) rfl (XS.icmpNo X41.here hx rfl (hb hby at_210) rfl (teq (rfl : p3 = p3)).2 (XT.iconstV X41.here hx rfl (1 : Int32) (hb hby at_213) (by decide) (XS.goto X41.here hx rfl (pc0 := 214) (pc' := 218) rfl (hb hby at_214) (by decide) (by decide) (XS.istore X41.here hx rfl (hb hby at_218) rfl (l' := #[.val (.int p0), .val (.int p1), .val (.int p2), .val (.int p3), .val (.int p4), .val (.int (3 : Int32)), .val (.ref b33), .val (.ref b41_0), .val (.long (1 : Int64)), .second, .val (.long ((1 : Int64) + (p1).toInt64)), .second, .val (.long (((1 : Int64) + (p1).toInt64) + (p2).toInt64)), .second, .val (.long ((((1 : Int64) + (p1).toInt64) + (p2).toInt64) + (p3).toInt64)), .second, .val (.int (1 : Int32))]) rfl (XS.iload X41.here hx rfl (hb hby at_220) rfl (XT.iconstV X41.here hx rfl (3 : Int32) (hb hby at_222) (by decide) (XS.icmpYes X41.here hx rfl (pc0 := 223) (pc' := 257) rfl (hb hby at_223) rfl (flt (by decide)).2.2.2 (by decide) (by decide) (XS.iload X41.here hx rfl (hb hby at_257) rfl k))))))))) ?_
    obtain ⟨fs, hr, hrun, hended, hW, hsame⟩ := X41.leave (v := (some (.int (1 : Int32)))) (fun h => by rw [hret] at h; cases h)
    refine Wp.done (retN X41 hx (t := .boolean) hret (by simp) (hb hby at_259) hr) hrun hended ⟨_, _, rfl, ?_, ⟨_, rfl⟩, hW, hsame.mono (by decide) (by decide)⟩
    show QL n0 _ T41.heap _
    exact ⟨rfl, N41⟩
  · rw [hk5]
    refine Wp.back (U' := (s₁.setTop (mkF m 10 #[.val (.int p0), .val (.int p1), .val (.int p2), .val (.int p3), .val (.int p4), .val (.int (4 : Int32)), .unset, .unset, .unset, .unset, .unset, .unset, .unset, .unset, .unset, .unset, .unset] [(.int (4 : Int32))]))) (fun t k => XS.iload X0.here hx rfl (hb hby at_8) rfl k) ?_
    obtain ⟨T50, h50, k50, X50, e50, E50, A50, st50⟩ := newP X0 hx hZ (hw _ (List.mem_of_getElem? (i := 1) rfl)) e0 (g := (mkF m 10 #[.val (.int p0), .val (.int p1), .val (.int p2), .val (.int p3), .val (.int p4), .val (.int (4 : Int32)), .unset, .unset, .unset, .unset, .unset, .unset, .unset, .unset, .unset, .unset, .unset] [(.int (4 : Int32))])) rfl (hb hby at_10) rfl (by decide) (cap := 4) (by decide) (by decide) (by decide) (by decide)
    obtain ⟨b50, g50⟩ : ∃ z, z = h0.size := ⟨_, rfl⟩
    rw [← g50] at A50 st50
    have g_b50 : n0 ≤ b50 := Nat.le_trans Z0 (Nat.le_of_eq g50.symm)
    have f51_0 := Nat.le_trans Z0 E50.1
    have V50 : Arv Z h50 b50 k50 .int (4 : Int32) [(.int (0 : Int32)), (.int (0 : Int32)), (.int (0 : Int32)), (.int (0 : Int32))] (.int (0 : Int32)) := (Arv.new A50 (by decide)).pad (pad_rep [] (.int (0 : Int32)) 4)
    refine Wp.back (U' := (T50.setTop (mkF m 12 #[.val (.int p0), .val (.int p1), .val (.int p2), .val (.int p3), .val (.int p4), .val (.int (4 : Int32)), .unset, .unset, .unset, .unset, .unset, .unset, .unset, .unset, .unset, .unset, .unset] [(.ref b50)]))) st50 ?_
    refine Wp.back (U' := (T50.setTop (mkF m 23 #[.val (.int p0), .val (.int p1), .val (.int p2), .val (.int p3), .val (.int p4), .val (.int (4 : Int32)), .val (.ref b50), .unset, .unset, .unset, .unset, .unset, .unset, .unset, .unset, .unset, .unset] [(.int p1), (.int (0 : Int32)), (.ref b50)]))) (fun t k => XS.astore X50.here hx rfl (hb hby at_12) rfl rfl (l' := #[.val (.int p0), .val (.int p1), .val (.int p2), .val (.int p3), .val (.int p4), .val (.int (4 : Int32)), .val (.ref b50), .unset, .unset, .unset, .unset, .unset, .unset, .unset, .unset, .unset, .unset]) rfl (XS.iload X50.here hx rfl (hb hby at_14) rfl (XS.ifNo X50.here hx rfl (hb hby at_16) rfl ((if0 _ _).trans (tlt (by decide)).2.2.2) (XS.aload X50.here hx rfl (hb hby at_19) rfl rfl (XT.iconstV X50.here hx rfl (0 : Int32) (hb hby at_21) (by decide) (XS.iloadN X50.here hx rfl (hb hby at_22) rfl k)))))) ?_
    have vq52 := V50
    obtain ⟨cl52, Ar52, qa52, qs52, qn52, qh52, qg52⟩ := vq52
    have hin52 : ¬ ((0 : Int32) < 0 ∨ cl52.slots.size ≤ ((0 : Int32)).toNatClampNeg) := inb_of qs52 ⟨by decide, by decide⟩
    obtain ⟨T52, h52, X52, e52, W52, st52⟩ := stI X50 hx hZ e50 Ar52 (j := (0 : Int32)) hin52 (g := (mkF m 23 #[.val (.int p0), .val (.int p1), .val (.int p2), .val (.int p3), .val (.int p4), .val (.int (4 : Int32)), .val (.ref b50), .unset, .unset, .unset, .unset, .unset, .unset, .unset, .unset, .unset, .unset] [(.int p1), (.int (0 : Int32)), (.ref b50)])) rfl rfl (hb hby at_23)
    have V52 : Arv Z h52 b50 k50 .int (4 : Int32) [(.int p1), (.int (0 : Int32)), (.int (0 : Int32)), (.int (0 : Int32))] (.int (0 : Int32)) := Arv.set Ar52 qa52 qs52 qn52 qh52 qg52 rfl W52 0 rfl (Nat.le_of_ble_eq_true rfl)
    have f53_0 := Nat.le_trans f51_0 (Keep.of_wr W52).1
    have N52 := Fr.snoc X52 N0 g_b50
    refine Wp.back (U' := (T52.setTop (mkF m 24 #[.val (.int p0), .val (.int p1), .val (.int p2), .val (.int p3), .val (.int p4), .val (.int (4 : Int32)), .val (.ref b50), .unset, .unset, .unset, .unset, .unset, .unset, .unset, .unset, .unset, .unset] []))) st52 ?_
    refine Wp.back (U' := (T52.setTop (mkF m 34 #[.val (.int p0), .val (.int p1), .val (.int p2), .val (.int p3), .val (.int p4), .val (.int (4 : Int32)), .val (.ref b50), .unset, .unset, .unset, .unset, .unset, .unset, .unset, .unset, .unset, .unset] [(.int p2), (.int (1 : Int32)), (.ref b50)]))) (fun t k => XS.iload X52.here hx rfl (hb hby at_24) rfl (XT.iconstV X52.here hx rfl (1 : Int32) (hb hby at_26) (by decide) (XS.icmpNo X52.here hx rfl (hb hby at_27) rfl (tlt (by decide)).2.2.2 (XS.aload X52.here hx rfl (hb hby at_30) rfl rfl (XT.iconstV X52.here hx rfl (1 : Int32) (hb hby at_32) (by decide) (XS.iloadN X52.here hx rfl (hb hby at_33) rfl k)))))) ?_
    have vq54 := V52
    obtain ⟨cl54, Ar54, qa54, qs54, qn54, qh54, qg54⟩ := vq54
    have hin54 : ¬ ((1 : Int32) < 0 ∨ cl54.slots.size ≤ ((1 : Int32)).toNatClampNeg) := inb_of qs54 ⟨by decide, by decide⟩
    obtain ⟨T54, h54, X54, e54, W54, st54⟩ := stI X52 hx hZ e52 Ar54 (j := (1 : Int32)) hin54 (g := (mkF m 34 #[.val (.int p0), .val (.int p1), .val (.int p2), .val (.int p3), .val (.int p4), .val (.int (4 : Int32)), .val (.ref b50), .unset, .unset, .unset, .unset, .unset, .unset, .unset, .unset, .unset, .unset] [(.int p2), (.int (1 : Int32)), (.ref b50)])) rfl rfl (hb hby at_34)
    have V54 : Arv Z h54 b50 k50 .int (4 : Int32) [(.int p1), (.int p2), (.int (0 : Int32)), (.int (0 : Int32))] (.int (0 : Int32)) := Arv.set Ar54 qa54 qs54 qn54 qh54 qg54 rfl W54 1 rfl (Nat.le_of_ble_eq_true rfl)
    have f55_0 := Nat.le_trans f53_0 (Keep.of_wr W54).1
    have N54 := Fr.snoc X54 N52 g_b50
    refine Wp.back (U' := (T54.setTop (mkF m 35 #[.val (.int p0), .val (.int p1), .val (.int p2), .val (.int p3), .val (.int p4), .val (.int (4 : Int32)), .val (.ref b50), .unset, .unset, .unset, .unset, .unset, .unset, .unset, .unset, .unset, .unset] []))) st54 ?_
    refine Wp.back (U' := (T54.setTop (mkF m 45 #[.val (.int p0), .val (.int p1), .val (.int p2), .val (.int p3), .val (.int p4), .val (.int (4 : Int32)), .val (.ref b50), .unset, .unset, .unset, .unset, .unset, .unset, .unset, .unset, .unset, .unset] [(.int p3), (.int (2 : Int32)), (.ref b50)]))) (fun t k => XS.iload X54.here hx rfl (hb hby at_35) rfl (XT.iconstV X54.here hx rfl (2 : Int32) (hb hby at_37) (by decide) (XS.icmpNo X54.here hx rfl (hb hby at_38) rfl (tlt (by decide)).2.2.2 (XS.aload X54.here hx rfl (hb hby at_41) rfl rfl (XT.iconstV X54.here hx rfl (2 : Int32) (hb hby at_43) (by decide) (XS.iloadN X54.here hx rfl (hb hby at_44) rfl k)))))) ?_
    have vq56 := V54
    obtain ⟨cl56, Ar56, qa56, qs56, qn56, qh56, qg56⟩ := vq56
    have hin56 : ¬ ((2 : Int32) < 0 ∨ cl56.slots.size ≤ ((2 : Int32)).toNatClampNeg) := inb_of qs56 ⟨by decide, by decide⟩
    obtain ⟨T56, h56, X56, e56, W56, st56⟩ := stI X54 hx hZ e54 Ar56 (j := (2 : Int32)) hin56 (g := (mkF m 45 #[.val (.int p0), .val (.int p1), .val (.int p2), .val (.int p3), .val (.int p4), .val (.int (4 : Int32)), .val (.ref b50), .unset, .unset, .unset, .unset, .unset, .unset, .unset, .unset, .unset, .unset] [(.int p3), (.int (2 : Int32)), (.ref b50)])) rfl rfl (hb hby at_45)
    have V56 : Arv Z h56 b50 k50 .int (4 : Int32) [(.int p1), (.int p2), (.int p3), (.int (0 : Int32))] (.int (0 : Int32)) := Arv.set Ar56 qa56 qs56 qn56 qh56 qg56 rfl W56 2 rfl (Nat.le_of_ble_eq_true rfl)
    have f57_0 := Nat.le_trans f55_0 (Keep.of_wr W56).1
    have N56 := Fr.snoc X56 N54 g_b50
    refine Wp.back (U' := (T56.setTop (mkF m 46 #[.val (.int p0), .val (.int p1), .val (.int p2), .val (.int p3), .val (.int p4), .val (.int (4 : Int32)), .val (.ref b50), .unset, .unset, .unset, .unset, .unset, .unset, .unset, .unset, .unset, .unset] []))) st56 ?_
    refine Wp.back (U' := (T56.setTop (mkF m 57 #[.val (.int p0), .val (.int p1), .val (.int p2), .val (.int p3), .val (.int p4), .val (.int (4 : Int32)), .val (.ref b50), .unset, .unset, .unset, .unset, .unset, .unset, .unset, .unset, .unset, .unset] [(.int p4), (.int (3 : Int32)), (.ref b50)]))) (fun t k => XS.iload X56.here hx rfl (hb hby at_46) rfl (XT.iconstV X56.here hx rfl (3 : Int32) (hb hby at_48) (by decide) (XS.icmpNo X56.here hx rfl (hb hby at_49) rfl (tlt (by decide)).2.2.2 (XS.aload X56.here hx rfl (hb hby at_52) rfl rfl (XT.iconstV X56.here hx rfl (3 : Int32) (hb hby at_54) (by decide) (XS.iload X56.here hx rfl (hb hby at_55) rfl k)))))) ?_
    have vq58 := V56
    obtain ⟨cl58, Ar58, qa58, qs58, qn58, qh58, qg58⟩ := vq58
    have hin58 : ¬ ((3 : Int32) < 0 ∨ cl58.slots.size ≤ ((3 : Int32)).toNatClampNeg) := inb_of qs58 ⟨by decide, by decide⟩
    obtain ⟨T58, h58, X58, e58, W58, st58⟩ := stI X56 hx hZ e56 Ar58 (j := (3 : Int32)) hin58 (g := (mkF m 57 #[.val (.int p0), .val (.int p1), .val (.int p2), .val (.int p3), .val (.int p4), .val (.int (4 : Int32)), .val (.ref b50), .unset, .unset, .unset, .unset, .unset, .unset, .unset, .unset, .unset, .unset] [(.int p4), (.int (3 : Int32)), (.ref b50)])) rfl rfl (hb hby at_57)
    have V58 : Arv Z h58 b50 k50 .int (4 : Int32) [(.int p1), (.int p2), (.int p3), (.int p4)] (.int (0 : Int32)) := Arv.set Ar58 qa58 qs58 qn58 qh58 qg58 rfl W58 3 rfl (Nat.le_of_ble_eq_true rfl)
    have f59_0 := Nat.le_trans f57_0 (Keep.of_wr W58).1
    have N58 := Fr.snoc X58 N56 g_b50
    refine Wp.back (U' := (T58.setTop (mkF m 58 #[.val (.int p0), .val (.int p1), .val (.int p2), .val (.int p3), .val (.int p4), .val (.int (4 : Int32)), .val (.ref b50), .unset, .unset, .unset, .unset, .unset, .unset, .unset, .unset, .unset, .unset] []))) st58 ?_
    refine Wp.back (U' := (T58.setTop (mkF m 60 #[.val (.int p0), .val (.int p1), .val (.int p2), .val (.int p3), .val (.int p4), .val (.int (4 : Int32)), .val (.ref b50), .unset, .unset, .unset, .unset, .unset, .unset, .unset, .unset, .unset, .unset] [(.ref b50)]))) (fun t k => XS.aload X58.here hx rfl (hb hby at_58) rfl rfl k) ?_
    obtain ⟨_, _, ⟨T60, L60, k60, n60⟩, -, X60, ⟨Lc60, hQ60, l60, y60, z60⟩, st60⟩ := Jvm.LawKit.callS X58 hx (y := (⟨"com/example/mill_river/millriver/index/Index", "documentStarts", "([I)[J"⟩ : MethodName)) hown (mvT hZ (hw _ (List.mem_of_getElem? (i := 2) rfl))) (mvT hZ (hw _ (List.mem_of_getElem? (i := 3) rfl))) (mvT hZ (hw _ (List.mem_of_getElem? (i := 4) rfl))) (mvT hZ (hw _ (List.mem_of_getElem? (i := 5) rfl))) (by decide) (backOf (W := 0) (rm_ds4 l Z a0 hw [] b50 k50 p1 p2 p3 p4 h58 n0 f59_0 V58) hZ (hw _ (List.mem_of_getElem? (i := 5) rfl)) (hw _ (List.mem_of_getElem? (i := 4) rfl)) (by decide) (by decide)) (g := (mkF m 60 #[.val (.int p0), .val (.int p1), .val (.int p2), .val (.int p3), .val (.int p4), .val (.int (4 : Int32)), .val (.ref b50), .unset, .unset, .unset, .unset, .unset, .unset, .unset, .unset, .unset, .unset] [(.ref b50)])) rfl (by rw [hml]; rfl) (argsL := [(.ref b50)]) (rest := []) (lenOf pd0_0 rfl) rfl (by show 2 * 0 + _ ≤ _; exact Nat.le_of_eq rfl) (hb hby at_60) (fun _ _ => ⟨rfl, e58, (by decide : 1 + 1 ≤ _), (by decide : 4 + 4 ≤ _)⟩)
    dsimp only [Pt.U, Pt.locs, Pt.cells, Pt.slots] at X60 l60 y60 z60 st60 hQ60
    subst l60 y60 z60
    obtain ⟨b60_0, k60_0, rfl, N60q, K60, sf60_0, o60_0⟩ := hQ60
    have ne_b50_b60_0 : b50 ≠ b60_0 := Nat.ne_of_lt (Nat.lt_of_lt_of_le V58.lt sf60_0)
    have g_b60_0 : n0 ≤ b60_0 := Nat.le_trans f59_0 sf60_0
    have f61_0 := Nat.le_trans f59_0 K60.1
    have f61_1 := V58.keep K60 nin0
    have N60 := Fr.app N58 N60q
    refine Wp.back (U' := (T60.setTop (mkF m 63 #[.val (.int p0), .val (.int p1), .val (.int p2), .val (.int p3), .val (.int p4), .val (.int (4 : Int32)), .val (.ref b50), .unset, .unset, .unset, .unset, .unset, .unset, .unset, .unset, .unset, .unset] [(.ref b60_0)]))) st60 ?_
    refine Wp.back (U' := (T60.setTop (mkF m 72 #[.val (.int p0), .val (.int p1), .val (.int p2), .val (.int p3), .val (.int p4), .val (.int (4 : Int32)), .val (.ref b50), .val (.ref b60_0), .unset, .unset, .unset, .unset, .unset, .unset, .unset, .unset, .unset] [(.ref b60_0)]))) (fun t k => XS.astore X60.here hx rfl (hb hby at_63) rfl rfl (l' := #[.val (.int p0), .val (.int p1), .val (.int p2), .val (.int p3), .val (.int p4), .val (.int (4 : Int32)), .val (.ref b50), .val (.ref b60_0), .unset, .unset, .unset, .unset, .unset, .unset, .unset, .unset, .unset]) rfl (XS.aload X60.here hx rfl (hb hby at_65) rfl rfl (XS.ifnullNo X60.here hx rfl (hb hby at_67) rfl (XS.aload X60.here hx rfl (hb hby at_70) rfl rfl k)))) ?_
    have vq62 := o60_0
    obtain ⟨cl62, Ar62, -, qs62, qn62, -, -⟩ := vq62
    refine Wp.back (U' := (T60.setTop (mkF m 73 #[.val (.int p0), .val (.int p1), .val (.int p2), .val (.int p3), .val (.int p4), .val (.int (4 : Int32)), .val (.ref b50), .val (.ref b60_0), .unset, .unset, .unset, .unset, .unset, .unset, .unset, .unset, .unset] [(.int (4 : Int32))]))) (fun t k => X60.arraylength hx Ar62.1 (State.isArrayOf_alike hZ.alike Ar62.2.1) (g := (mkF m 72 #[.val (.int p0), .val (.int p1), .val (.int p2), .val (.int p3), .val (.int p4), .val (.int (4 : Int32)), .val (.ref b50), .val (.ref b60_0), .unset, .unset, .unset, .unset, .unset, .unset, .unset, .unset, .unset] [(.ref b60_0)])) rfl rfl (hb hby at_72) t (by rw [len_of qs62 qn62]; exact k)) ?_
    refine Wp.back (U' := (T60.setTop (mkF m 92 #[.val (.int p0), .val (.int p1), .val (.int p2), .val (.int p3), .val (.int p4), .val (.int (4 : Int32)), .val (.ref b50), .val (.ref b60_0), .val (.long (1 : Int64)), .second, .val (.long ((1 : Int64) + (p1).toInt64)), .second, .unset, .unset, .unset, .unset, .unset] [(.long (p1).toInt64), (.long (1 : Int64))]))) (fun t k => XS.iload X60.here hx rfl (hb hby at_73) rfl (XS.icmpYes X60.here hx rfl (pc0 := 75) (pc' := 80) rfl (hb hby at_75) rfl (teq (by decide)).1 (by decide) (by decide) (XT.lconstV X60.here hx rfl (1 : Int64) (hb hby at_80) (by decide) (XS.lstore X60.here hx rfl (hb hby at_81) rfl (l' := #[.val (.int p0), .val (.int p1), .val (.int p2), .val (.int p3), .val (.int p4), .val (.int (4 : Int32)), .val (.ref b50), .val (.ref b60_0), .val (.long (1 : Int64)), .second, .unset, .unset, .unset, .unset, .unset, .unset, .unset]) rfl (XT.lconstV X60.here hx rfl (1 : Int64) (hb hby at_83) (by decide) (XS.iloadN X60.here hx rfl (hb hby at_84) rfl (XS.i2l X60.here hx rfl (hb hby at_85) rfl (XS.ladd X60.here hx rfl (hb hby at_86) rfl (XS.lstore X60.here hx rfl (hb hby at_87) rfl (l' := #[.val (.int p0), .val (.int p1), .val (.int p2), .val (.int p3), .val (.int p4), .val (.int (4 : Int32)), .val (.ref b50), .val (.ref b60_0), .val (.long (1 : Int64)), .second, .val (.long ((1 : Int64) + (p1).toInt64)), .second, .unset, .unset, .unset, .unset, .unset]) rfl (XT.lconstV X60.here hx rfl (1 : Int64) (hb hby at_89) (by decide) (XS.iloadN X60.here hx rfl (hb hby at_90) rfl (XS.i2l X60.here hx rfl (hb hby at_91) rfl k)))))))))))) ?_
    refine Wp.back (U' := (T60.setTop (mkF m 105 #[.val (.int p0), .val (.int p1), .val (.int p2), .val (.int p3), .val (.int p4), .val (.int (4 : Int32)), .val (.ref b50), .val (.ref b60_0), .val (.long (1 : Int64)), .second, .val (.long ((1 : Int64) + (p1).toInt64)), .second, .val (.long (((1 : Int64) + (p1).toInt64) + (p2).toInt64)), .second, .unset, .unset, .unset] [(.long (((1 : Int64) + (p1).toInt64) + (p2).toInt64))]))) (fun t k => XS.ladd X60.here hx rfl (hb hby at_92) rfl (XS.iloadN X60.here hx rfl (hb hby at_93) rfl (XS.i2l X60.here hx rfl (hb hby at_94) rfl (XS.ladd X60.here hx rfl (hb hby at_95) rfl (XS.lstore X60.here hx rfl (hb hby at_96) rfl (l' := #[.val (.int p0), .val (.int p1), .val (.int p2), .val (.int p3), .val (.int p4), .val (.int (4 : Int32)), .val (.ref b50), .val (.ref b60_0), .val (.long (1 : Int64)), .second, .val (.long ((1 : Int64) + (p1).toInt64)), .second, .val (.long (((1 : Int64) + (p1).toInt64) + (p2).toInt64)), .second, .unset, .unset, .unset]) rfl (XT.lconstV X60.here hx rfl (1 : Int64) (hb hby at_98) (by decide) (XS.iloadN X60.here hx rfl (hb hby at_99) rfl (XS.i2l X60.here hx rfl (hb hby at_100) rfl (XS.ladd X60.here hx rfl (hb hby at_101) rfl (XS.iloadN X60.here hx rfl (hb hby at_102) rfl (XS.i2l X60.here hx rfl (hb hby at_103) rfl (XS.ladd X60.here hx rfl (hb hby at_104) rfl k)))))))))))) ?_
    refine Wp.back (U' := (T60.setTop (mkF m 126 #[.val (.int p0), .val (.int p1), .val (.int p2), .val (.int p3), .val (.int p4), .val (.int (4 : Int32)), .val (.ref b50), .val (.ref b60_0), .val (.long (1 : Int64)), .second, .val (.long ((1 : Int64) + (p1).toInt64)), .second, .val (.long (((1 : Int64) + (p1).toInt64) + (p2).toInt64)), .second, .val (.long ((((1 : Int64) + (p1).toInt64) + (p2).toInt64) + (p3).toInt64)), .second, .val (.int (1 : Int32))] [(.int (0 : Int32)), (.ref b60_0)]))) (fun t k => XS.iloadN X60.here hx rfl (hb hby at_105) rfl (XS.i2l X60.here hx rfl (hb hby at_106) rfl (XS.ladd X60.here hx rfl (hb hby at_107) rfl (XS.lstore X60.here hx rfl (hb hby at_108) rfl (l' := #[.val (.int p0), .val (.int p1), .val (.int p2), .val (.int p3), .val (.int p4), .val (.int (4 : Int32)), .val (.ref b50), .val (.ref b60_0), .val (.long (1 : Int64)), .second, .val (.long ((1 : Int64) + (p1).toInt64)), .second, .val (.long (((1 : Int64) + (p1).toInt64) + (p2).toInt64)), .second, .val (.long ((((1 : Int64) + (p1).toInt64) + (p2).toInt64) + (p3).toInt64)), .second, .unset]) rfl (XT.iconstV X60.here hx rfl (1 : Int32) (hb hby at_110) (by decide) (XS.istore X60.here hx rfl (hb hby at_111) rfl (l' := #[.val (.int p0), .val (.int p1), .val (.int p2), .val (.int p3), .val (.int p4), .val (.int (4 : Int32)), .val (.ref b50), .val (.ref b60_0), .val (.long (1 : Int64)), .second, .val (.long ((1 : Int64) + (p1).toInt64)), .second, .val (.long (((1 : Int64) + (p1).toInt64) + (p2).toInt64)), .second, .val (.long ((((1 : Int64) + (p1).toInt64) + (p2).toInt64) + (p3).toInt64)), .second, .val (.int (1 : Int32))]) rfl (XS.iload X60.here hx rfl (hb hby at_113) rfl (XS.ifNo X60.here hx rfl (hb hby at_115) rfl ((if0 _ _).trans (tlt (by decide)).2.2.2) (XS.iload X60.here hx rfl (hb hby at_118) rfl (XS.ifNo X60.here hx rfl (hb hby at_120) rfl ((if0 _ _).trans (feq (by decide)).1) (XS.aload X60.here hx rfl (hb hby at_123) rfl rfl (XT.iconstV X60.here hx rfl (0 : Int32) (hb hby at_125) (by decide) k)))))))))))) ?_
    have vq63 := o60_0
    obtain ⟨cl63, Ar63, qa63, qs63, qn63, qh63, qg63⟩ := vq63
    have hin63 : ¬ ((0 : Int32) < 0 ∨ cl63.slots.size ≤ ((0 : Int32)).toNatClampNeg) := inb_of qs63 ⟨by decide, by decide⟩
    have hat63 : cl63.slots[((0 : Int32)).toNatClampNeg]? = some (.long (1 : Int64)) := Has.at qh63 hin63 rfl
    refine Wp.back (U' := (T60.setTop (mkF m 127 #[.val (.int p0), .val (.int p1), .val (.int p2), .val (.int p3), .val (.int p4), .val (.int (4 : Int32)), .val (.ref b50), .val (.ref b60_0), .val (.long (1 : Int64)), .second, .val (.long ((1 : Int64) + (p1).toInt64)), .second, .val (.long (((1 : Int64) + (p1).toInt64) + (p2).toInt64)), .second, .val (.long ((((1 : Int64) + (p1).toInt64) + (p2).toInt64) + (p3).toInt64)), .second, .val (.int (1 : Int32))] [(.long (1 : Int64))]))) (fun t k => X60.laload hx (j := (0 : Int32)) (v := (.long (1 : Int64))) Ar63.1 (State.isArrayOf_alike hZ.alike Ar63.2.1) Ar63.2.2 hin63 hat63 (g := (mkF m 126 #[.val (.int p0), .val (.int p1), .val (.int p2), .val (.int p3), .val (.int p4), .val (.int (4 : Int32)), .val (.ref b50), .val (.ref b60_0), .val (.long (1 : Int64)), .second, .val (.long ((1 : Int64) + (p1).toInt64)), .second, .val (.long (((1 : Int64) + (p1).toInt64) + (p2).toInt64)), .second, .val (.long ((((1 : Int64) + (p1).toInt64) + (p2).toInt64) + (p3).toInt64)), .second, .val (.int (1 : Int32))] [(.int (0 : Int32)), (.ref b60_0)])) rfl rfl (hb hby at_126) t k) ?_
    refine Wp.back (U' := (T60.setTop (mkF m 136 #[.val (.int p0), .val (.int p1), .val (.int p2), .val (.int p3), .val (.int p4), .val (.int (4 : Int32)), .val (.ref b50), .val (.ref b60_0), .val (.long (1 : Int64)), .second, .val (.long ((1 : Int64) + (p1).toInt64)), .second, .val (.long (((1 : Int64) + (p1).toInt64) + (p2).toInt64)), .second, .val (.long ((((1 : Int64) + (p1).toInt64) + (p2).toInt64) + (p3).toInt64)), .second, .val (.int (1 : Int32))] [(.int (0 : Int32)), (.ref b50)]))) (fun t k => XS.lload X60.here hx rfl (hb hby at_127) rfl (XS.lcmp X60.here hx rfl (hb hby at_129) rfl (XS.ifNo X60.here hx rfl (hb hby at_130) rfl ((if0 _ _).trans (teq ((lw_eq (1 : Int64) (1 : Int64)).mpr (by decide))).2) (XS.aload X60.here hx rfl (hb hby at_133) rfl rfl (XT.iconstV X60.here hx rfl (0 : Int32) (hb hby at_135) (by decide) k))))) ?_
    have vq64 := f61_1
    obtain ⟨cl64, Ar64, qa64, qs64, qn64, qh64, qg64⟩ := vq64
    have hin64 : ¬ ((0 : Int32) < 0 ∨ cl64.slots.size ≤ ((0 : Int32)).toNatClampNeg) := inb_of qs64 ⟨by decide, by decide⟩
    have hat64 : cl64.slots[((0 : Int32)).toNatClampNeg]? = some (.int p1) := Has.at qh64 hin64 rfl
    refine Wp.back (U' := (T60.setTop (mkF m 137 #[.val (.int p0), .val (.int p1), .val (.int p2), .val (.int p3), .val (.int p4), .val (.int (4 : Int32)), .val (.ref b50), .val (.ref b60_0), .val (.long (1 : Int64)), .second, .val (.long ((1 : Int64) + (p1).toInt64)), .second, .val (.long (((1 : Int64) + (p1).toInt64) + (p2).toInt64)), .second, .val (.long ((((1 : Int64) + (p1).toInt64) + (p2).toInt64) + (p3).toInt64)), .second, .val (.int (1 : Int32))] [(.int p1)]))) (fun t k => X60.iaload hx (j := (0 : Int32)) (v := (.int p1)) Ar64.1 (State.isArrayOf_alike hZ.alike Ar64.2.1) Ar64.2.2 hin64 hat64 (g := (mkF m 136 #[.val (.int p0), .val (.int p1), .val (.int p2), .val (.int p3), .val (.int p4), .val (.int (4 : Int32)), .val (.ref b50), .val (.ref b60_0), .val (.long (1 : Int64)), .second, .val (.long ((1 : Int64) + (p1).toInt64)), .second, .val (.long (((1 : Int64) + (p1).toInt64) + (p2).toInt64)), .second, .val (.long ((((1 : Int64) + (p1).toInt64) + (p2).toInt64) + (p3).toInt64)), .second, .val (.int (1 : Int32))] [(.int (0 : Int32)), (.ref b50)])) rfl rfl (hb hby at_136) t k) ?_
    refine Wp.back (U' := (T60.setTop (mkF m 162 #[.val (.int p0), .val (.int p1), .val (.int p2), .val (.int p3), .val (.int p4), .val (.int (4 : Int32)), .val (.ref b50), .val (.ref b60_0), .val (.long (1 : Int64)), .second, .val (.long ((1 : Int64) + (p1).toInt64)), .second, .val (.long (((1 : Int64) + (p1).toInt64) + (p2).toInt64)), .second, .val (.long ((((1 : Int64) + (p1).toInt64) + (p2).toInt64) + (p3).toInt64)), .second, .val (.int (1 : Int32))] [(.int (1 : Int32)), (.ref b60_0)]))) (fun t k => XS.iloadN X60.here hx rfl (hb hby at_137) rfl (XS.icmpNo X60.here hx rfl (hb hby at_138) rfl (teq (rfl : p1 = p1)).2 (XT.iconstV X60.here hx rfl (1 : Int32) (hb hby at_141) (by decide) (XS.goto X60.here hx rfl (pc0 := 142) (pc' := 146) rfl (hb hby at_142) (by decide) (by decide) (XS.istore X60.here hx rfl (hb hby at_146) rfl (l' := #[.val (.int p0), .val (.int p1), .val (.int p2), .val (.int p3), .val (.int p4), .val (.int (4 : Int32)), .val (.ref b50), .val (.ref b60_0), .val (.long (1 : Int64)), .second, .val (.long ((1 : Int64) + (p1).toInt64)), .second, .val (.long (((1 : Int64) + (p1).toInt64) + (p2).toInt64)), .second, .val (.long ((((1 : Int64) + (p1).toInt64) + (p2).toInt64) + (p3).toInt64)), .second, .val (.int (1 : Int32))]) rfl (XS.iload X60.here hx rfl (hb hby at_148) rfl (XT.iconstV X60.here hx rfl (1 : Int32) (hb hby at_150) (by decide) (XS.icmpNo X60.here hx rfl (hb hby at_151) rfl (tlt (by decide)).2.2.2 (XS.iload X60.here hx rfl (hb hby at_154) rfl (XS.ifNo X60.here hx rfl (hb hby at_156) rfl ((if0 _ _).trans (feq (by decide)).1) (XS.aload X60.here hx rfl (hb hby at_159) rfl rfl (XT.iconstV X60.here hx rfl (1 : Int32) (hb hby at_161) (by decide) k)))))))))))) ?_
    have vq65 := o60_0
    obtain ⟨cl65, Ar65, qa65, qs65, qn65, qh65, qg65⟩ := vq65
    have hin65 : ¬ ((1 : Int32) < 0 ∨ cl65.slots.size ≤ ((1 : Int32)).toNatClampNeg) := inb_of qs65 ⟨by decide, by decide⟩
    have hat65 : cl65.slots[((1 : Int32)).toNatClampNeg]? = some (.long ((1 : Int64) + (p1).toInt64)) := Has.at qh65 hin65 rfl
    refine Wp.back (U' := (T60.setTop (mkF m 163 #[.val (.int p0), .val (.int p1), .val (.int p2), .val (.int p3), .val (.int p4), .val (.int (4 : Int32)), .val (.ref b50), .val (.ref b60_0), .val (.long (1 : Int64)), .second, .val (.long ((1 : Int64) + (p1).toInt64)), .second, .val (.long (((1 : Int64) + (p1).toInt64) + (p2).toInt64)), .second, .val (.long ((((1 : Int64) + (p1).toInt64) + (p2).toInt64) + (p3).toInt64)), .second, .val (.int (1 : Int32))] [(.long ((1 : Int64) + (p1).toInt64))]))) (fun t k => X60.laload hx (j := (1 : Int32)) (v := (.long ((1 : Int64) + (p1).toInt64))) Ar65.1 (State.isArrayOf_alike hZ.alike Ar65.2.1) Ar65.2.2 hin65 hat65 (g := (mkF m 162 #[.val (.int p0), .val (.int p1), .val (.int p2), .val (.int p3), .val (.int p4), .val (.int (4 : Int32)), .val (.ref b50), .val (.ref b60_0), .val (.long (1 : Int64)), .second, .val (.long ((1 : Int64) + (p1).toInt64)), .second, .val (.long (((1 : Int64) + (p1).toInt64) + (p2).toInt64)), .second, .val (.long ((((1 : Int64) + (p1).toInt64) + (p2).toInt64) + (p3).toInt64)), .second, .val (.int (1 : Int32))] [(.int (1 : Int32)), (.ref b60_0)])) rfl rfl (hb hby at_162) t k) ?_
    refine Wp.back (U' := (T60.setTop (mkF m 172 #[.val (.int p0), .val (.int p1), .val (.int p2), .val (.int p3), .val (.int p4), .val (.int (4 : Int32)), .val (.ref b50), .val (.ref b60_0), .val (.long (1 : Int64)), .second, .val (.long ((1 : Int64) + (p1).toInt64)), .second, .val (.long (((1 : Int64) + (p1).toInt64) + (p2).toInt64)), .second, .val (.long ((((1 : Int64) + (p1).toInt64) + (p2).toInt64) + (p3).toInt64)), .second, .val (.int (1 : Int32))] [(.int (1 : Int32)), (.ref b50)]))) (fun t k => XS.lload X60.here hx rfl (hb hby at_163) rfl (XS.lcmp X60.here hx rfl (hb hby at_165) rfl (XS.ifNo X60.here hx rfl (hb hby at_166) rfl ((if0 _ _).trans (teq ((lw_eq ((1 : Int64) + (p1).toInt64) ((1 : Int64) + (p1).toInt64)).mpr (rfl : ((1 : Int64) + (p1).toInt64) = ((1 : Int64) + (p1).toInt64)))).2) (XS.aload X60.here hx rfl (hb hby at_169) rfl rfl (XT.iconstV X60.here hx rfl (1 : Int32) (hb hby at_171) (by decide) k))))) ?_
    have vq66 := f61_1
    obtain ⟨cl66, Ar66, qa66, qs66, qn66, qh66, qg66⟩ := vq66
    have hin66 : ¬ ((1 : Int32) < 0 ∨ cl66.slots.size ≤ ((1 : Int32)).toNatClampNeg) := inb_of qs66 ⟨by decide, by decide⟩
    have hat66 : cl66.slots[((1 : Int32)).toNatClampNeg]? = some (.int p2) := Has.at qh66 hin66 rfl
    refine Wp.back (U' := (T60.setTop (mkF m 173 #[.val (.int p0), .val (.int p1), .val (.int p2), .val (.int p3), .val (.int p4), .val (.int (4 : Int32)), .val (.ref b50), .val (.ref b60_0), .val (.long (1 : Int64)), .second, .val (.long ((1 : Int64) + (p1).toInt64)), .second, .val (.long (((1 : Int64) + (p1).toInt64) + (p2).toInt64)), .second, .val (.long ((((1 : Int64) + (p1).toInt64) + (p2).toInt64) + (p3).toInt64)), .second, .val (.int (1 : Int32))] [(.int p2)]))) (fun t k => X60.iaload hx (j := (1 : Int32)) (v := (.int p2)) Ar66.1 (State.isArrayOf_alike hZ.alike Ar66.2.1) Ar66.2.2 hin66 hat66 (g := (mkF m 172 #[.val (.int p0), .val (.int p1), .val (.int p2), .val (.int p3), .val (.int p4), .val (.int (4 : Int32)), .val (.ref b50), .val (.ref b60_0), .val (.long (1 : Int64)), .second, .val (.long ((1 : Int64) + (p1).toInt64)), .second, .val (.long (((1 : Int64) + (p1).toInt64) + (p2).toInt64)), .second, .val (.long ((((1 : Int64) + (p1).toInt64) + (p2).toInt64) + (p3).toInt64)), .second, .val (.int (1 : Int32))] [(.int (1 : Int32)), (.ref b50)])) rfl rfl (hb hby at_172) t k) ?_
    refine Wp.back (U' := (T60.setTop (mkF m 198 #[.val (.int p0), .val (.int p1), .val (.int p2), .val (.int p3), .val (.int p4), .val (.int (4 : Int32)), .val (.ref b50), .val (.ref b60_0), .val (.long (1 : Int64)), .second, .val (.long ((1 : Int64) + (p1).toInt64)), .second, .val (.long (((1 : Int64) + (p1).toInt64) + (p2).toInt64)), .second, .val (.long ((((1 : Int64) + (p1).toInt64) + (p2).toInt64) + (p3).toInt64)), .second, .val (.int (1 : Int32))] [(.int (2 : Int32)), (.ref b60_0)]))) (fun t k => XS.iloadN X60.here hx rfl (hb hby at_173) rfl (XS.icmpNo X60.here hx rfl (hb hby at_174) rfl (teq (rfl : p2 = p2)).2 (XT.iconstV X60.here hx rfl (1 : Int32) (hb hby at_177) (by decide) (XS.goto X60.here hx rfl (pc0 := 178) (pc' := 182) rfl (hb hby at_178) (by decide) (by decide) (XS.istore X60.here hx rfl (hb hby at_182) rfl (l' := #[.val (.int p0), .val (.int p1), .val (.int p2), .val (.int p3), .val (.int p4), .val (.int (4 : Int32)), .val (.ref b50), .val (.ref b60_0), .val (.long (1 : Int64)), .second, .val (.long ((1 : Int64) + (p1).toInt64)), .second, .val (.long (((1 : Int64) + (p1).toInt64) + (p2).toInt64)), .second, .val (.long ((((1 : Int64) + (p1).toInt64) + (p2).toInt64) + (p3).toInt64)), .second, .val (.int (1 : Int32))]) rfl (XS.iload X60.here hx rfl (hb hby at_184) rfl (XT.iconstV X60.here hx rfl (2 : Int32) (hb hby at_186) (by decide) (XS.icmpNo X60.here hx rfl (hb hby at_187) rfl (tlt (by decide)).2.2.2 (XS.iload X60.here hx rfl (hb hby at_190) rfl (XS.ifNo X60.here hx rfl (hb hby at_192) rfl ((if0 _ _).trans (feq (by decide)).1) (XS.aload X60.here hx rfl (hb hby at_195) rfl rfl (XT.iconstV X60.here hx rfl (2 : Int32) (hb hby at_197) (by decide) k)))))))))))) ?_
    have vq67 := o60_0
    obtain ⟨cl67, Ar67, qa67, qs67, qn67, qh67, qg67⟩ := vq67
    have hin67 : ¬ ((2 : Int32) < 0 ∨ cl67.slots.size ≤ ((2 : Int32)).toNatClampNeg) := inb_of qs67 ⟨by decide, by decide⟩
    have hat67 : cl67.slots[((2 : Int32)).toNatClampNeg]? = some (.long (((1 : Int64) + (p1).toInt64) + (p2).toInt64)) := Has.at qh67 hin67 rfl
    refine Wp.back (U' := (T60.setTop (mkF m 199 #[.val (.int p0), .val (.int p1), .val (.int p2), .val (.int p3), .val (.int p4), .val (.int (4 : Int32)), .val (.ref b50), .val (.ref b60_0), .val (.long (1 : Int64)), .second, .val (.long ((1 : Int64) + (p1).toInt64)), .second, .val (.long (((1 : Int64) + (p1).toInt64) + (p2).toInt64)), .second, .val (.long ((((1 : Int64) + (p1).toInt64) + (p2).toInt64) + (p3).toInt64)), .second, .val (.int (1 : Int32))] [(.long (((1 : Int64) + (p1).toInt64) + (p2).toInt64))]))) (fun t k => X60.laload hx (j := (2 : Int32)) (v := (.long (((1 : Int64) + (p1).toInt64) + (p2).toInt64))) Ar67.1 (State.isArrayOf_alike hZ.alike Ar67.2.1) Ar67.2.2 hin67 hat67 (g := (mkF m 198 #[.val (.int p0), .val (.int p1), .val (.int p2), .val (.int p3), .val (.int p4), .val (.int (4 : Int32)), .val (.ref b50), .val (.ref b60_0), .val (.long (1 : Int64)), .second, .val (.long ((1 : Int64) + (p1).toInt64)), .second, .val (.long (((1 : Int64) + (p1).toInt64) + (p2).toInt64)), .second, .val (.long ((((1 : Int64) + (p1).toInt64) + (p2).toInt64) + (p3).toInt64)), .second, .val (.int (1 : Int32))] [(.int (2 : Int32)), (.ref b60_0)])) rfl rfl (hb hby at_198) t k) ?_
    refine Wp.back (U' := (T60.setTop (mkF m 208 #[.val (.int p0), .val (.int p1), .val (.int p2), .val (.int p3), .val (.int p4), .val (.int (4 : Int32)), .val (.ref b50), .val (.ref b60_0), .val (.long (1 : Int64)), .second, .val (.long ((1 : Int64) + (p1).toInt64)), .second, .val (.long (((1 : Int64) + (p1).toInt64) + (p2).toInt64)), .second, .val (.long ((((1 : Int64) + (p1).toInt64) + (p2).toInt64) + (p3).toInt64)), .second, .val (.int (1 : Int32))] [(.int (2 : Int32)), (.ref b50)]))) (fun t k => XS.lload X60.here hx rfl (hb hby at_199) rfl (XS.lcmp X60.here hx rfl (hb hby at_201) rfl (XS.ifNo X60.here hx rfl (hb hby at_202) rfl ((if0 _ _).trans (teq ((lw_eq (((1 : Int64) + (p1).toInt64) + (p2).toInt64) (((1 : Int64) + (p1).toInt64) + (p2).toInt64)).mpr (rfl : (((1 : Int64) + (p1).toInt64) + (p2).toInt64) = (((1 : Int64) + (p1).toInt64) + (p2).toInt64)))).2) (XS.aload X60.here hx rfl (hb hby at_205) rfl rfl (XT.iconstV X60.here hx rfl (2 : Int32) (hb hby at_207) (by decide) k))))) ?_
    have vq68 := f61_1
    obtain ⟨cl68, Ar68, qa68, qs68, qn68, qh68, qg68⟩ := vq68
    have hin68 : ¬ ((2 : Int32) < 0 ∨ cl68.slots.size ≤ ((2 : Int32)).toNatClampNeg) := inb_of qs68 ⟨by decide, by decide⟩
    have hat68 : cl68.slots[((2 : Int32)).toNatClampNeg]? = some (.int p3) := Has.at qh68 hin68 rfl
    refine Wp.back (U' := (T60.setTop (mkF m 209 #[.val (.int p0), .val (.int p1), .val (.int p2), .val (.int p3), .val (.int p4), .val (.int (4 : Int32)), .val (.ref b50), .val (.ref b60_0), .val (.long (1 : Int64)), .second, .val (.long ((1 : Int64) + (p1).toInt64)), .second, .val (.long (((1 : Int64) + (p1).toInt64) + (p2).toInt64)), .second, .val (.long ((((1 : Int64) + (p1).toInt64) + (p2).toInt64) + (p3).toInt64)), .second, .val (.int (1 : Int32))] [(.int p3)]))) (fun t k => X60.iaload hx (j := (2 : Int32)) (v := (.int p3)) Ar68.1 (State.isArrayOf_alike hZ.alike Ar68.2.1) Ar68.2.2 hin68 hat68 (g := (mkF m 208 #[.val (.int p0), .val (.int p1), .val (.int p2), .val (.int p3), .val (.int p4), .val (.int (4 : Int32)), .val (.ref b50), .val (.ref b60_0), .val (.long (1 : Int64)), .second, .val (.long ((1 : Int64) + (p1).toInt64)), .second, .val (.long (((1 : Int64) + (p1).toInt64) + (p2).toInt64)), .second, .val (.long ((((1 : Int64) + (p1).toInt64) + (p2).toInt64) + (p3).toInt64)), .second, .val (.int (1 : Int32))] [(.int (2 : Int32)), (.ref b50)])) rfl rfl (hb hby at_208) t k) ?_
    refine Wp.back (U' := (T60.setTop (mkF m 234 #[.val (.int p0), .val (.int p1), .val (.int p2), .val (.int p3), .val (.int p4), .val (.int (4 : Int32)), .val (.ref b50), .val (.ref b60_0), .val (.long (1 : Int64)), .second, .val (.long ((1 : Int64) + (p1).toInt64)), .second, .val (.long (((1 : Int64) + (p1).toInt64) + (p2).toInt64)), .second, .val (.long ((((1 : Int64) + (p1).toInt64) + (p2).toInt64) + (p3).toInt64)), .second, .val (.int (1 : Int32))] [(.int (3 : Int32)), (.ref b60_0)]))) (fun t k => XS.iloadN X60.here hx rfl (hb hby at_209) rfl (XS.icmpNo X60.here hx rfl (hb hby at_210) rfl (teq (rfl : p3 = p3)).2 (XT.iconstV X60.here hx rfl (1 : Int32) (hb hby at_213) (by decide) (XS.goto X60.here hx rfl (pc0 := 214) (pc' := 218) rfl (hb hby at_214) (by decide) (by decide) (XS.istore X60.here hx rfl (hb hby at_218) rfl (l' := #[.val (.int p0), .val (.int p1), .val (.int p2), .val (.int p3), .val (.int p4), .val (.int (4 : Int32)), .val (.ref b50), .val (.ref b60_0), .val (.long (1 : Int64)), .second, .val (.long ((1 : Int64) + (p1).toInt64)), .second, .val (.long (((1 : Int64) + (p1).toInt64) + (p2).toInt64)), .second, .val (.long ((((1 : Int64) + (p1).toInt64) + (p2).toInt64) + (p3).toInt64)), .second, .val (.int (1 : Int32))]) rfl (XS.iload X60.here hx rfl (hb hby at_220) rfl (XT.iconstV X60.here hx rfl (3 : Int32) (hb hby at_222) (by decide) (XS.icmpNo X60.here hx rfl (hb hby at_223) rfl (tlt (by decide)).2.2.2 (XS.iload X60.here hx rfl (hb hby at_226) rfl (XS.ifNo X60.here hx rfl (hb hby at_228) rfl ((if0 _ _).trans (feq (by decide)).1) (XS.aload X60.here hx rfl (hb hby at_231) rfl rfl (XT.iconstV X60.here hx rfl (3 : Int32) (hb hby at_233) (by decide) k)))))))))))) ?_
    have vq69 := o60_0
    obtain ⟨cl69, Ar69, qa69, qs69, qn69, qh69, qg69⟩ := vq69
    have hin69 : ¬ ((3 : Int32) < 0 ∨ cl69.slots.size ≤ ((3 : Int32)).toNatClampNeg) := inb_of qs69 ⟨by decide, by decide⟩
    have hat69 : cl69.slots[((3 : Int32)).toNatClampNeg]? = some (.long ((((1 : Int64) + (p1).toInt64) + (p2).toInt64) + (p3).toInt64)) := Has.at qh69 hin69 rfl
    refine Wp.back (U' := (T60.setTop (mkF m 235 #[.val (.int p0), .val (.int p1), .val (.int p2), .val (.int p3), .val (.int p4), .val (.int (4 : Int32)), .val (.ref b50), .val (.ref b60_0), .val (.long (1 : Int64)), .second, .val (.long ((1 : Int64) + (p1).toInt64)), .second, .val (.long (((1 : Int64) + (p1).toInt64) + (p2).toInt64)), .second, .val (.long ((((1 : Int64) + (p1).toInt64) + (p2).toInt64) + (p3).toInt64)), .second, .val (.int (1 : Int32))] [(.long ((((1 : Int64) + (p1).toInt64) + (p2).toInt64) + (p3).toInt64))]))) (fun t k => X60.laload hx (j := (3 : Int32)) (v := (.long ((((1 : Int64) + (p1).toInt64) + (p2).toInt64) + (p3).toInt64))) Ar69.1 (State.isArrayOf_alike hZ.alike Ar69.2.1) Ar69.2.2 hin69 hat69 (g := (mkF m 234 #[.val (.int p0), .val (.int p1), .val (.int p2), .val (.int p3), .val (.int p4), .val (.int (4 : Int32)), .val (.ref b50), .val (.ref b60_0), .val (.long (1 : Int64)), .second, .val (.long ((1 : Int64) + (p1).toInt64)), .second, .val (.long (((1 : Int64) + (p1).toInt64) + (p2).toInt64)), .second, .val (.long ((((1 : Int64) + (p1).toInt64) + (p2).toInt64) + (p3).toInt64)), .second, .val (.int (1 : Int32))] [(.int (3 : Int32)), (.ref b60_0)])) rfl rfl (hb hby at_234) t k) ?_
    refine Wp.back (U' := (T60.setTop (mkF m 244 #[.val (.int p0), .val (.int p1), .val (.int p2), .val (.int p3), .val (.int p4), .val (.int (4 : Int32)), .val (.ref b50), .val (.ref b60_0), .val (.long (1 : Int64)), .second, .val (.long ((1 : Int64) + (p1).toInt64)), .second, .val (.long (((1 : Int64) + (p1).toInt64) + (p2).toInt64)), .second, .val (.long ((((1 : Int64) + (p1).toInt64) + (p2).toInt64) + (p3).toInt64)), .second, .val (.int (1 : Int32))] [(.int (3 : Int32)), (.ref b50)]))) (fun t k => XS.lload X60.here hx rfl (hb hby at_235) rfl (XS.lcmp X60.here hx rfl (hb hby at_237) rfl (XS.ifNo X60.here hx rfl (hb hby at_238) rfl ((if0 _ _).trans (teq ((lw_eq ((((1 : Int64) + (p1).toInt64) + (p2).toInt64) + (p3).toInt64) ((((1 : Int64) + (p1).toInt64) + (p2).toInt64) + (p3).toInt64)).mpr (rfl : ((((1 : Int64) + (p1).toInt64) + (p2).toInt64) + (p3).toInt64) = ((((1 : Int64) + (p1).toInt64) + (p2).toInt64) + (p3).toInt64)))).2) (XS.aload X60.here hx rfl (hb hby at_241) rfl rfl (XT.iconstV X60.here hx rfl (3 : Int32) (hb hby at_243) (by decide) k))))) ?_
    have vq70 := f61_1
    obtain ⟨cl70, Ar70, qa70, qs70, qn70, qh70, qg70⟩ := vq70
    have hin70 : ¬ ((3 : Int32) < 0 ∨ cl70.slots.size ≤ ((3 : Int32)).toNatClampNeg) := inb_of qs70 ⟨by decide, by decide⟩
    have hat70 : cl70.slots[((3 : Int32)).toNatClampNeg]? = some (.int p4) := Has.at qh70 hin70 rfl
    refine Wp.back (U' := (T60.setTop (mkF m 245 #[.val (.int p0), .val (.int p1), .val (.int p2), .val (.int p3), .val (.int p4), .val (.int (4 : Int32)), .val (.ref b50), .val (.ref b60_0), .val (.long (1 : Int64)), .second, .val (.long ((1 : Int64) + (p1).toInt64)), .second, .val (.long (((1 : Int64) + (p1).toInt64) + (p2).toInt64)), .second, .val (.long ((((1 : Int64) + (p1).toInt64) + (p2).toInt64) + (p3).toInt64)), .second, .val (.int (1 : Int32))] [(.int p4)]))) (fun t k => X60.iaload hx (j := (3 : Int32)) (v := (.int p4)) Ar70.1 (State.isArrayOf_alike hZ.alike Ar70.2.1) Ar70.2.2 hin70 hat70 (g := (mkF m 244 #[.val (.int p0), .val (.int p1), .val (.int p2), .val (.int p3), .val (.int p4), .val (.int (4 : Int32)), .val (.ref b50), .val (.ref b60_0), .val (.long (1 : Int64)), .second, .val (.long ((1 : Int64) + (p1).toInt64)), .second, .val (.long (((1 : Int64) + (p1).toInt64) + (p2).toInt64)), .second, .val (.long ((((1 : Int64) + (p1).toInt64) + (p2).toInt64) + (p3).toInt64)), .second, .val (.int (1 : Int32))] [(.int (3 : Int32)), (.ref b50)])) rfl rfl (hb hby at_244) t k) ?_
    refine Wp.back (U' := (T60.setTop (mkF m 259 #[.val (.int p0), .val (.int p1), .val (.int p2), .val (.int p3), .val (.int p4), .val (.int (4 : Int32)), .val (.ref b50), .val (.ref b60_0), .val (.long (1 : Int64)), .second, .val (.long ((1 : Int64) + (p1).toInt64)), .second, .val (.long (((1 : Int64) + (p1).toInt64) + (p2).toInt64)), .second, .val (.long ((((1 : Int64) + (p1).toInt64) + (p2).toInt64) + (p3).toInt64)), .second, .val (.int (1 : Int32))] [(.int (1 : Int32))]))) (fun t k => XS.iload X60.here hx rfl (hb hby at_245) rfl (XS.icmpNo X60.here hx rfl (hb hby at_247) rfl (teq (rfl : p4 = p4)).2 (XT.iconstV X60.here hx rfl (1 : Int32) (hb hby at_250) (by decide) (XS.goto X60.here hx rfl (pc0 := 251) (pc' := 255) rfl (hb hby at_251) (by decide) (by decide) (XS.istore X60.here hx rfl (hb hby at_255) rfl (l' := #[.val (.int p0), .val (.int p1), .val (.int p2), .val (.int p3), .val (.int p4), .val (.int (4 : Int32)), .val (.ref b50), .val (.ref b60_0), .val (.long (1 : Int64)), .second, .val (.long ((1 : Int64) + (p1).toInt64)), .second, .val (.long (((1 : Int64) + (p1).toInt64) + (p2).toInt64)), .second, .val (.long ((((1 : Int64) + (p1).toInt64) + (p2).toInt64) + (p3).toInt64)), .second, .val (.int (1 : Int32))]) rfl (XS.iload X60.here hx rfl (hb hby at_257) rfl k)))))) ?_
    obtain ⟨fs, hr, hrun, hended, hW, hsame⟩ := X60.leave (v := (some (.int (1 : Int32)))) (fun h => by rw [hret] at h; cases h)
    refine Wp.done (retN X60 hx (t := .boolean) hret (by simp) (hb hby at_259) hr) hrun hended ⟨_, _, rfl, ?_, ⟨_, rfl⟩, hW, hsame.mono (by decide) (by decide)⟩
    show QL n0 _ T60.heap _
    exact ⟨rfl, N60⟩
set_option maxRecDepth 65536 in
set_option maxHeartbeats 40000000 in
theorem comes_1 {Post : Tables → Env → Array Value → State → Outcome → State → Prop} (hpost : ∀ tb e args s v u, (limb_1_1.after args s (.returned v) u = true ∧ limb_1_2.after args s (.returned v) u = true ∧ True) → FrameEnd s (.returned v) u (Jvm.fieldLocs frame_1_writes args s ++ Jvm.arrayLocs frame_1_arrays args s ++ Jvm.staticLocs frame_1_statics s) 16 128 → Post tb e args s (.returned v) u) :
    ArmFor flags0 classFile x code maxLocals ret World_1 tables_1 room_1 Calls_1 rest_1 Pre_1 Post := by
  intro l hfl _ _ p e ha hc hk s m args below hf hA hF happ hP
  obtain ⟨hcalls, hrest, hpre⟩ := hP
  obtain ⟨-, -, -, hnamed, -, -, -, hat⟩ := (Spec.applies_iff hf).mp happ
  obtain ⟨hg, hn⟩ := and_e (Cond.before_iff.mp (show (Jvm.Cond.and given_1 narrow_1).before args s = true from hpre))
  obtain ⟨hg1, hg2⟩ := and_e hg
  obtain ⟨hg21, hg22⟩ := and_e hg2
  obtain ⟨hg221, hg222⟩ := and_e hg22
  obtain ⟨hg2221, hg2222⟩ := and_e hg222
  obtain ⟨hg22221, hg22222⟩ := and_e hg2222
  obtain ⟨w0, w1, w2, w3, w4, rfl⟩ : ∃ w0 w1 w2 w3 w4 : Value, args = #[w0, w1, w2, w3, w4] := by
    have hs : args.size = 5 := by simpa [Cond.value, given_1] using hg1
    obtain ⟨L⟩ := args
    match L, hs with
    | [w0, w1, w2, w3, w4], _ => exact ⟨w0, w1, w2, w3, w4, rfl⟩
  have hw := fun d (hd : d ∈ tables_1) => atoms_spec (ws := Jvm.Cond.code x code maxLocals ret :: tables_1) hat d (List.mem_cons_of_mem _ hd)
  have hfit : Fit s := fun {y c} hc i hi => by
    obtain ⟨ha, rfl⟩ := Array.getElem?_eq_some_iff.mp hc
    have q := List.all_eq_true.mp ((Array.all_eq_true_iff_forall_mem.mp hF) _ (Array.getElem_mem ha)) i (List.mem_range.mpr hi)
    simpa [Array.getElem?_eq_getElem hi] using q
  obtain ⟨i0, ei0⟩ := is_v hg21
  obtain rfl : w0 = (.int i0) := Option.some.inj ei0
  obtain ⟨i1, ei1⟩ := is_v hg221
  obtain rfl : w1 = (.int i1) := Option.some.inj ei1
  obtain ⟨i2, ei2⟩ := is_v hg2221
  obtain rfl : w2 = (.int i2) := Option.some.inj ei2
  obtain ⟨i3, ei3⟩ := is_v hg22221
  obtain rfl : w3 = (.int i3) := Option.some.inj ei3
  obtain ⟨i4, ei4⟩ := is_v hg22222
  obtain rfl : w4 = (.int i4) := Option.some.inj ei4
  obtain ⟨n, o, h1, h2, h3, _, L, rfl, ⟨rfl, N⟩, hq⟩ := rm_law l s _ hw tables_1 i0 i1 i2 i3 i4 s.heap s.heap.size (Nat.le_refl _)  p e ha hc hk s m _ below hf ((Spec.applies_iff_loose hf).mp happ).1 ⟨rfl, State.Warmed39.refl s, rfl⟩ trivial
  refine ⟨n, _, h1, h2, h3, hpost _ _ _ _ _ _ ⟨Cond.after_iff.mpr rfl, Cond.after_iff.mpr (eq_i res_at (Term.int_eval (1)) rfl), trivial⟩ ⟨hq.1, hq.2.1, (hq.2.2.sift fun y hy => Or.inr (N y hy)).mono (by decide) (by decide)⟩⟩
theorem main_1_1 : Claimed_1_1 := comes_1 fun _ _ _ _ _ _ h hF => ⟨h.1, hF⟩
theorem main_1_2 : Claimed_1_2 := comes_1 fun _ _ _ _ _ _ h hF => ⟨h.2.1, hF⟩
end Jvm.Pilot.@@N@@
namespace Jvm.Pilot.@@N@@
open Jvm Jvm.ClassFile Sem Op Lib Jvm.Free Jvm.Stand Jvm.Pilot.@@N@@.Jvm.D
/-! MADE BY PROGRAM (witnessworld.py) out of the Statement's table words and the real class files: 11 classes; the members and pool entries that the words name. The judged class is class 1, her method 1. -/
namespace start1
open Jvm.ClassFile
def u (s : String) : CpInfo := .utf8 (stringToUtf16 s)
/-- a pool by its gaps: so many unusable entries, then the entry; so many at the end -/
def gap : Nat → List CpInfo → List CpInfo
  | 0, r => r
  | n + 1, r => .unusable :: gap n r
def poolList (es : List (Nat × CpInfo)) (last : Nat) : List CpInfo := es.foldr (fun e r => gap e.1 (e.2 :: r)) (gap last [])
def pool (es : List (Nat × CpInfo)) (last : Nat) : Array CpInfo := ⟨poolList es last⟩
def fileOf (pool : Array CpInfo) (this : Nat) (attrs : Array Attribute := #[]) (ms : Array MethodInfo := #[]) (fl : Nat := 33) (sup : Nat := 0) (ifs : Array Nat := #[]) (fds : Array FieldInfo := #[]) : ClassFile where
  minorVersion := 0
  majorVersion := 65
  constantPool := pool
  accessFlags := fl
  thisClass := this
  superClass := sup
  interfaces := ifs
  fields := fds
  methods := ms
  attributes := attrs
def plain (name : String) (sup : Option ClassId) : Class where
  name := name
  kind := .ordinary
  loader := none
  accessFlags := 33
  super := sup
  interfaces := #[]
  cf := none
  fields := #[]
  methods := #[]
  instanceTypes := #[]
  staticTypes := #[]
  resolved := #[]
  callSites := []
  init := .initialized
  statics := none
  mirror := none

def pool0 : Array CpInfo := pool [(5, u "<init>"), (0, u "()V"), (1, .class_ 10), (1, u "java/lang/Object")] 113

def k0m0 : Method := { name := "<init>", desc := "()V", sig := { parameters := [], returnType := none }, accessFlags := 1, code := none }
/-- java/lang/Object -/
def k0 : Class := { plain "java/lang/Object" none with
  accessFlags := 33
  interfaces := #[]
  cf := some (fileOf pool0 8 #[] #[{ accessFlags := 1, nameIndex := 5, descriptorIndex := 6, attributes := #[] }] 33 0 #[] #[])
  fields := #[]
  methods := #[k0m0]
  instanceTypes := #[]
  staticTypes := #[]
  resolved := Array.replicate 124 none
  statics := none }

def pool1 : Array CpInfo := pool [(2, .class_ 4), (1, u "java/lang/Object"), (0, u "<init>"), (0, u "()V"), (0, .integer 2147483647), (0, .methodref 9 10), (0, .class_ 11), (0, .nameAndType 12 13), (0, u "com/example/mill_river/millriver/index/Index"), (0, u "documentStarts"), (0, u "([I)[J"), (0, .class_ 15), (0, u "com/example/mill_river/millriver/index/IndexDocumentStartsPinLaw"), (2, u "law"), (0, u "(IIIII)Z")] 7

def k1m0 : Method := { name := "<init>", desc := "()V", sig := { parameters := [], returnType := none }, accessFlags := 1, code := none }
def k1c1 : Code := { maxStack := 4, maxLocals := 17, code := code, exceptionTable := #[], attributes := #[] }
def k1m1 : Method := { name := "law", desc := "(IIIII)Z", sig := { parameters := [.int, .int, .int, .int, .int], returnType := some .boolean }, accessFlags := 9, code := some k1c1 }
/-- com/example/mill_river/millriver/index/IndexDocumentStartsPinLaw -/
def k1 : Class := { plain "com/example/mill_river/millriver/index/IndexDocumentStartsPinLaw" (some 0) with
  accessFlags := 49
  interfaces := #[]
  cf := some (fileOf pool1 14 #[] #[{ accessFlags := 1, nameIndex := 5, descriptorIndex := 6, attributes := #[] }, { accessFlags := 9, nameIndex := 18, descriptorIndex := 19, attributes := #[] }] 49 2 #[] #[])
  fields := #[]
  methods := #[k1m0, k1m1]
  instanceTypes := #[]
  staticTypes := #[]
  resolved := Array.replicate 27 none
  statics := none }

def pool2 : Array CpInfo := pool [(2, .class_ 4), (1, u "java/lang/Object"), (3, .class_ 10), (1, u "com/example/mill_river/millriver/index/Index"), (0, u "termsByDocumentLock"), (0, u "Ljava/lang/Object;"), (2, u "documentNumbers"), (0, u "[Ljava/lang/String;"), (2, u "documentLengths"), (0, u "[I"), (2, u "tokenCount"), (0, u "J"), (2, u "postings"), (0, u "Ljava/util/Map;"), (2, u "documentStarts"), (0, u "([I)[J"), (2, u "[J"), (18, u "termsByDocument"), (0, u "Lcom/example/mill_river/millriver/index/Index$TermsByDocument;"), (0, .class_ 57), (0, u "com/example/mill_river/millriver/index/Index$TermsByDocument")] 47

def k2c0 : Code := { maxStack := 4, maxLocals := 5, code := prog_38_method_2_code, exceptionTable := #[], attributes := #[] }
def k2m0 : Method := { name := "documentStarts", desc := "([I)[J", sig := { parameters := [(.array .int)], returnType := some (.array .long) }, accessFlags := 8, code := some k2c0 }
/-- com/example/mill_river/millriver/index/Index -/
def k2 : Class := { plain "com/example/mill_river/millriver/index/Index" (some 0) with
  accessFlags := 33
  interfaces := #[]
  cf := some (fileOf pool2 8 #[.nestMembers #[56]] #[{ accessFlags := 8, nameIndex := 31, descriptorIndex := 32, attributes := #[] }] 33 2 #[] #[{ accessFlags := 18, nameIndex := 15, descriptorIndex := 16, attributes := #[] }, { accessFlags := 18, nameIndex := 19, descriptorIndex := 20, attributes := #[] }, { accessFlags := 18, nameIndex := 31, descriptorIndex := 35, attributes := #[] }, { accessFlags := 18, nameIndex := 23, descriptorIndex := 24, attributes := #[] }, { accessFlags := 18, nameIndex := 27, descriptorIndex := 28, attributes := #[] }, { accessFlags := 18, nameIndex := 11, descriptorIndex := 12, attributes := #[] }, { accessFlags := 66, nameIndex := 54, descriptorIndex := 55, attributes := #[] }])
  fields := #[{ name := "documentNumbers", type := (.array (.object "java/lang/String")), accessFlags := 18, slot := 0, constantValue := 0 }, { name := "documentLengths", type := (.array .int), accessFlags := 18, slot := 1, constantValue := 0 }, { name := "documentStarts", type := (.array .long), accessFlags := 18, slot := 2, constantValue := 0 }, { name := "tokenCount", type := .long, accessFlags := 18, slot := 3, constantValue := 0 }, { name := "postings", type := (.object "java/util/Map"), accessFlags := 18, slot := 4, constantValue := 0 }, { name := "termsByDocumentLock", type := (.object "java/lang/Object"), accessFlags := 18, slot := 5, constantValue := 0 }, { name := "termsByDocument", type := (.object "com/example/mill_river/millriver/index/Index$TermsByDocument"), accessFlags := 66, slot := 6, constantValue := 0 }]
  methods := #[k2m0]
  instanceTypes := #[(.array (.object "java/lang/String")), (.array .int), (.array .long), .long, (.object "java/util/Map"), (.object "java/lang/Object"), (.object "com/example/mill_river/millriver/index/Index$TermsByDocument")]
  staticTypes := #[]
  resolved := Array.replicate 105 none
  statics := none }

def pool3 : Array CpInfo := pool [(1, u "java/lang/Cloneable"), (0, .class_ 1), (0, u "java/lang/Object"), (0, .class_ 3)] 3

/-- java/lang/Cloneable -/
def k3 : Class := { plain "java/lang/Cloneable" (some 0) with
  accessFlags := 1537
  interfaces := #[]
  cf := some (fileOf pool3 2 #[] #[] 1537 4 #[] #[])
  fields := #[]
  methods := #[]
  instanceTypes := #[]
  staticTypes := #[]
  resolved := Array.replicate 8 none
  statics := none }

def pool4 : Array CpInfo := pool [(1, u "java/io/Serializable"), (0, .class_ 1), (0, u "java/lang/Object"), (0, .class_ 3)] 3

/-- java/io/Serializable -/
def k4 : Class := { plain "java/io/Serializable" (some 0) with
  accessFlags := 1537
  interfaces := #[]
  cf := some (fileOf pool4 2 #[] #[] 1537 4 #[] #[])
  fields := #[]
  methods := #[]
  instanceTypes := #[]
  staticTypes := #[]
  resolved := Array.replicate 8 none
  statics := none }

/-- the primitive byte -/
def k5 : Class := { plain "byte" none with kind := .primitive 'B', accessFlags := 0x411 }
/-- [B -/
def k6 : Class := { plain "[B" (some 0) with kind := .array 5 .byte, interfaces := #[3, 4], accessFlags := 1041 }

/-- the primitive int -/
def k7 : Class := { plain "int" none with kind := .primitive 'I', accessFlags := 0x411 }
/-- [I -/
def k8 : Class := { plain "[I" (some 0) with kind := .array 7 .int, interfaces := #[3, 4], accessFlags := 1041 }

/-- the primitive long -/
def k9 : Class := { plain "long" none with kind := .primitive 'J', accessFlags := 0x411 }
/-- [J -/
def k10 : Class := { plain "[J" (some 0) with kind := .array 9 .long, interfaces := #[3, 4], accessFlags := 1041 }

def heap : Heap := #[]
def classes : Array Class := #[k0, k1, k2, k3, k4, k5, k6, k7, k8, k9, k10]
def interned : List (Array UInt16 × Addr) := []
def slotsUsed : Nat := 0
def theMethod : MethodId := ⟨1, 1⟩
def args0 : Array Value := #[.int 3, .int 1, .int 2, .int 7, .int 9]
def aboutOver (below : List Frame) : State where
  vm := { classes := classes, interned := interned.toArray }
  heap := heap
  slotsUsed := slotsUsed
  threads := #[{ frames := .invoking theMethod args0 :: below }]
def below0 : List Frame := [.native { method := ⟨0, 0⟩, args := #[] }]
def about1 : State := aboutOver below0
def p0 : Program := .bare "" "" ""
def e0 : Env := launch0.env 0 0 0
theorem w_frames : about1.frames = Frame.invoking theMethod args0 :: below0 := rfl
set_option maxRecDepth 65536 in
theorem w_args : argsFit about1.vm theMethod args0 = true := by decide +kernel
set_option maxRecDepth 65536 in
theorem w_heap : heapFits about1 = true := by decide +kernel
set_option maxRecDepth 65536 in
theorem w_runnable : about1.curStatus? = some .runnable := by decide +kernel
set_option maxRecDepth 65536 in
theorem w_alone : about1.alone = true := by decide +kernel
set_option maxRecDepth 65536 in
theorem w_named : about1.methodNamed? x = some theMethod := by decide +kernel
set_option maxRecDepth 65536 in
theorem w_hears : about1.hears theMethod below0 = true := by decide +kernel
set_option maxRecDepth 65536 in
theorem w_ripe : about1.ripe theMethod args0 below0 = true := by decide +kernel
theorem w_running : about1.status = .running := rfl
set_option maxRecDepth 65536 in
theorem w_room : about1.hasRoom e0.platform room_1 = true :=
  launch0.hasRoom_least _ room_1 (by decide +kernel) (by decide +kernel) (by decide +kernel) (by decide +kernel) (by decide +kernel) (by decide +kernel)
theorem allAtoms_all (ts : List Jvm.Cond) (a : Array Jvm.Value) (st : Jvm.State) : (allAtoms ts).before a st = ts.all (fun c => c.before a st) := by
  induction ts with
  | nil => rfl
  | cons c t ih =>
    show (Jvm.Cond.and c (allAtoms t)).before a st = _
    rw [Jvm.Cond.before_and, ih, List.all_cons]
def words1 : List Jvm.Cond := Jvm.Cond.code x code maxLocals ret :: tables_1
/-- a 'code' word, met by the world's own term for the bytes: nothing is compared byte by byte -/
theorem code_word {y : MethodName} {bytes : ByteArray} {mx : Nat} {rt : Option FieldType} {a : Array Value} {s : State} {m : MethodId} {meth : Method} {c : Code} (h1 : s.methodNamed? y = some m) (h2 : s.vm.method? m = some meth) (h3 : meth.code = some c) (h4 : c.code = bytes)
    (h5 : (c.maxLocals == mx && c.exceptionTable.isEmpty && decide (c.maxStack ≤ mostOperands) && decide (meth.sig.returnType = rt) && !meth.locks && decide (parseMethodDescriptor y.desc = some meth.sig)) = true) : (Jvm.Cond.code y bytes mx rt).before a s = true := by
  simp only [Bool.and_eq_true, beq_iff_eq, Bool.not_eq_true', decide_eq_true_eq] at h5
  obtain ⟨⟨⟨⟨⟨g1, g2⟩, g3⟩, g4⟩, g5⟩, g6⟩ := h5
  simp [Cond.before, Cond.holds, Cond.value, h1, h2, h3, h4, g1, g2, g3, g4, g5, g6]
def isCode : Jvm.Cond → Bool
  | .code _ _ _ _ => true
  | _ => false
theorem all_split {L : List Jvm.Cond} {P : Jvm.Cond → Bool} (h1 : L.all (fun c => isCode c || P c) = true) (h2 : ∀ c ∈ L.filter isCode, P c = true) : L.all P = true := by
  refine List.all_eq_true.mpr fun c hc => ?_
  have h := List.all_eq_true.mp h1 c hc
  rcases Bool.eq_false_or_eq_true (isCode c) with hi | hi
  · exact h2 c (List.mem_filter.mpr ⟨hc, hi⟩)
  · simpa [hi] using h
set_option maxRecDepth 65536 in
theorem w_c0 : (Jvm.Cond.code x code maxLocals ret).before args0 about1 = true := code_word (m := ⟨1, 1⟩) (meth := k1m1) (c := k1c1) (by decide +kernel) rfl rfl rfl (by decide +kernel)
set_option maxRecDepth 65536 in
theorem w_c1 : (Jvm.Cond.code ({ cls := "com/example/mill_river/millriver/index/Index", name := "documentStarts", desc := "([I)[J" } : Jvm.MethodName) prog_38_method_2_code (5 : Nat) (Option.some (Jvm.ClassFile.FieldType.array Jvm.ClassFile.FieldType.long))).before args0 about1 = true := code_word (m := ⟨2, 0⟩) (meth := k2m0) (c := k2c0) (by decide +kernel) rfl rfl rfl (by decide +kernel)
def codes1 : List Jvm.Cond := [Jvm.Cond.code x code maxLocals ret, Jvm.Cond.code ({ cls := "com/example/mill_river/millriver/index/Index", name := "documentStarts", desc := "([I)[J" } : Jvm.MethodName) prog_38_method_2_code (5 : Nat) (Option.some (Jvm.ClassFile.FieldType.array Jvm.ClassFile.FieldType.long))]
set_option maxRecDepth 65536 in
theorem codes_eq : words1.filter isCode = codes1 := rfl
theorem w_codes : ∀ c ∈ words1.filter isCode, c.before args0 about1 = true := by
  rw [codes_eq]
  intro c hc
  simp only [codes1, List.mem_cons, List.not_mem_nil, or_false] at hc
  rcases hc with rfl | rfl
  · exact w_c0
  · exact w_c1
set_option maxRecDepth 65536 in
theorem w_t1 : words1.all (fun c => isCode c || c.before args0 about1) = true := by decide +kernel
theorem w_tables : (allAtoms (Jvm.Cond.code x code maxLocals ret :: tables_1)).before args0 about1 = true := by
  rw [allAtoms_all]
  show words1.all (fun c => c.before args0 about1) = true
  refine all_split ?_ w_codes
  rw [w_t1]
set_option maxRecDepth 65536 in
theorem w_case : (Jvm.Cond.and given_1 narrow_1).before args0 about1 = true := by decide +kernel
theorem w_applies : (headSpec (Jvm.Cond.code x code maxLocals ret :: tables_1) room_1).applies x e0.platform about1 = true :=
  (Spec.applies_iff w_frames).mpr ⟨w_running, w_runnable, w_alone, w_named, w_hears, w_ripe, w_room, w_tables⟩
theorem atStart : AtStart classFile x code maxLocals ret World_1 tables_1 room_1 Calls_1 rest_1 Pre_1 launch0 p0 e0 about1 theMethod args0 below0 :=
  ⟨lists_1, trivial, launch0.admits_env _ _ _, launch0.least_env, fairChoices_fair.cas, fairChoices_fair.clock, w_frames, w_args, w_heap, w_applies, trivial, trivial, w_case⟩
end start1
theorem witness_1 : WitnessClaimed_1 := ⟨start1.p0, start1.e0, start1.about1, start1.theMethod, start1.args0, start1.below0, start1.atStart⟩
end Jvm.Pilot.@@N@@
