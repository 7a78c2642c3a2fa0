import JvmDerived
import JvmDerived.Pilot.@@N@@Statement
import JvmDerived.Pilot.@@N@@Code
set_option linter.unusedVariables false
set_option linter.unusedSimpArgs false
namespace Jvm.RoadKit
open Sem ClassFile Op Lib Jvm.Stand Jvm.Free Jvm.LawKit
section New
variable {p : Program} {l : Launch} {e : Env} {R : Room} {s : State} {m : MethodId} {args : Array Value} {below : List Frame} {meth : Method} {c : Code} {T : State} {locs : List Loc} {cells slots : Nat}
theorem retI (X : Stand p l e R s m args below meth c T locs cells slots) (hx : p.tables.exec = Jvm.exec) {pc : Nat} {Ls : Array Slot} {z : Int32} {rest : List Value} (hret : meth.sig.returnType = some .int) (hd : decode c.code pc = .ok (.ireturn, 1)) {fs : List Frame}
    (hl : ∀ (f : JFrame) (acts : List Action), f.method = m → f.locked = none → f.entered = [] → (doReturn e (T.setTop f) acts (some (.int z))).1 = T.setFrames fs) : Steps p.tables e below (T.setTop (mkF m pc Ls (.int z :: rest))) (T.setFrames fs) := by
  have hm' : T.vm.method? m = some meth := X.method'
  have hn : narrow .int (.int z) = .int z := rfl
  show Steps p.tables e below (T.setTop { method := m, pc := pc, locals := Ls, stack := _ :: rest, locked := none }) _
  jvm_step X.here [X.here.top, hx, hd, hm', hret, hn]
  first | (intro acts; rw [hl _ acts rfl rfl rfl]) | rw [hl _ _ rfl rfl rfl]
  exact Steps.refl _
end New
end Jvm.RoadKit
namespace Jvm.Pilot.@@N@@
open Jvm Jvm.ClassFile Sem Op Lib Jvm.Free Jvm.Stand Jvm.LawKit Jvm.RoadKit Bundle Jvm.Pilot.@@N@@.Jvm.D
def Wp (p : Program) (e : Env) (below : List Frame) (G : Outcome → State → Prop) (U : State) : Prop := ∃ s₂ o, Steps p.tables e below U s₂ ∧ s₂.status = .running ∧ Ended s₂ below o ∧ G o s₂
theorem Wp.back {p : Program} {e : Env} {below : List Frame} {G : Outcome → State → Prop} {U U' : State} (k : ∀ t, Steps p.tables e below U' t → Steps p.tables e below U t) (h : Wp p e below G U') : Wp p e below G U := by
  obtain ⟨s₂, o, h1, h2⟩ := h
  exact ⟨s₂, o, k _ h1, h2⟩
theorem Wp.done {p : Program} {e : Env} {below : List Frame} {G : Outcome → State → Prop} {U t : State} {o : Outcome} (h1 : Steps p.tables e below U t) (h2 : t.status = .running) (h3 : Ended t below o) (h4 : G o t) : Wp p e below G U := ⟨t, o, h1, h2, h3, h4⟩
/-- what a body leaves that writes nothing -/
def QL (n0 : Nat) (v : Option Value) (h : Heap) (L : List Loc) : Prop := v = some (.int 1) ∧ Fr n0 L
def QP (r : Option Value) (h0 : Heap) (n0 : Nat) (v : Option Value) (h : Heap) (L : List Loc) : Prop := v = r ∧ Fr n0 L ∧ h = h0
theorem own_irrefl (x : Int32) : ¬ x < x := by rw [Int32.lt_iff_toInt_lt]; omega
theorem Sta_keep {Z : State} {h h' : Heap} {ws : List Addr} {C n d : String} {v : Value} (F : Sta Z h C n d v) (K : Keep h h' ws) (q : ∀ x ∈ ws, ∃ c : Cell, h[x]? = some c ∧ c.vm.isStatics = false) : Sta Z h' C n d v := by
  obtain ⟨cf, i, k, f, st, cell, h1, h2, h3, h4, h5, h6, r⟩ := F
  refine ⟨cf, i, k, f, st, cell, h1, h2, h3, h4, K.2.1 _ _ h5 (fun hm => ?_), h6, r⟩
  obtain ⟨c, hc, hs⟩ := q _ hm
  rw [h5] at hc
  cases hc
  rw [h6] at hs
  cases hs
theorem Exa_ns {Z : State} {h : Heap} {a : Addr} {C : String} (F : Exa Z h a C) : ∃ c : Cell, h[a]? = some c ∧ c.vm.isStatics = false := by
  obtain ⟨c, k, h1, h2, h3, h4, r⟩ := F
  exact ⟨c, h1, h4⟩
theorem Fld_ns {Z : State} {h : Heap} {a : Addr} {C n d : String} {v : Value} (F : Fld Z h a C n d v) : ∃ c : Cell, h[a]? = some c ∧ c.vm.isStatics = false := by
  obtain ⟨c, cf, k, i, f, h1, h2, h3, h4, h5, r⟩ := F
  exact ⟨c, h1, h5⟩
theorem Arv_ns {Z : State} {h : Heap} {a : Addr} {k : ClassId} {ty : FieldType} {n : Int32} {vs : List Value} {d : Value} (F : Arv Z h a k ty n vs d) : ∃ c : Cell, h[a]? = some c ∧ c.vm.isStatics = false := by
  obtain ⟨c, A, r⟩ := F
  exact ⟨c, A.1, A.plain⟩
theorem Sta_keep0 {Z : State} {h h' : Heap} {C n d : String} {v : Value} (F : Sta Z h C n d v) (K : Keep h h' []) : Sta Z h' C n d v := by
  obtain ⟨cf, i, k, f, st, cell, h1, h2, h3, h4, h5, r⟩ := F
  exact ⟨cf, i, k, f, st, cell, h1, h2, h3, h4, K.2.1 _ _ h5 nin0, r⟩
def Q_ce (Z : State) (p0 : Int32)  (h0 : Heap) (n0 : Nat) (v : Option Value) (h : Heap) (L : List Loc) : Prop := v = some (.int (1 : Int32)) ∧ Fr n0 L ∧ Keep h0 h []
theorem d2_0 : decode jdk_43_method_3_code 0 = .ok (.iload_n 0, 1) := by decide +kernel
theorem d2_1 : decode jdk_43_method_3_code 1 = .ok (.sipush 255, 3) := by decide +kernel
theorem d2_4 : decode jdk_43_method_3_code 4 = .ok (.if_icmp .gt 7, 3) := by decide +kernel
theorem d2_7 : decode jdk_43_method_3_code 7 = .ok (.iconst 1, 1) := by decide +kernel
theorem d2_8 : decode jdk_43_method_3_code 8 = .ok (.goto 4, 3) := by decide +kernel
theorem d2_12 : decode jdk_43_method_3_code 12 = .ok (.ireturn, 1) := by decide +kernel
theorem pn2 : plainName "java/lang/StringLatin1" = true := by first | (simp [plainName, overriddenIn]; done) | decide +kernel
theorem ef2 (m : MethodId) (x0 : Int32) : entryFrame m #[(.int x0)] 1 = mkF m 0 #[.val (.int x0)] [] := by first | (simp [entryFrame, mkF, argsToLocals, Value.category]; done) | rfl
set_option maxRecDepth 65536 in
set_option maxHeartbeats 40000000 in
theorem rm_ce (l : Launch) (Z : State) (a0 : Array Value) (hw : ∀ d ∈ tables_1, d.before a0 Z = true) (ws : List Jvm.Cond) (p0 : Int32)  (h0 : Heap) (n0 : Nat) (Z0 : n0 ≤ h0.size) (h255 : ¬ (255 : Int32) < p0) :
    MetFree l (⟨"java/lang/StringLatin1", "canEncode", "(C)Z"⟩ : MethodName) (head1 (Jvm.Cond.code (⟨"java/lang/StringLatin1", "canEncode", "(C)Z"⟩ : MethodName) jdk_43_method_3_code 1 (some .boolean) :: ws) ({ frames := 0, cells := 0, slots := 0, locals := 0 } : Room)) (fun a U => a = #[(.int p0)] ∧ Z.Warmed39 U.vm ∧ U.heap = h0) (fun _ _ _ _ _ => True) (fun _ U o U' => ∃ v L, o = .returned v ∧ Q_ce Z p0 h0 n0 v U'.heap L ∧ FrameEnd U o U' L ({ frames := 0, cells := 0, slots := 0, locals := 0 } : Room).cells ({ frames := 0, cells := 0, slots := 0, locals := 0 } : Room).slots) := by
  refine MetFree.of_bodySF (plainFor_of_name pn2) hisR ?_
  intro p e s m args below meth c s₁ Bd hml0 hP hK
  obtain ⟨rfl, hZ, hh⟩ := hP
  have hx := Bd.exec
  have hby := Bd.bytes
  have hret := Bd.returns
  have hlk := Bd.notSynchronized
  have hml : c.maxLocals = 1 := hml0
  have hown : s.vm.findClass "java/lang/StringLatin1" = some m.cls := findClass_of_methodNamed Bd.named
  have hnm := (name_of_methodNamed Bd.named Bd.method).1
  have X0 : Stand p l e ({ frames := 0, cells := 0, slots := 0, locals := 0 } : Room) s m #[(.int p0)] below meth c s₁ [] 0 0 := Stand.of_body Bd
  have e0 : s₁.heap = h0 := by rw [← hh, Bd.state]; rfl
  have N0 := Fr.nil n0
  show Wp p e below (fun o s₂ => ∃ v L, o = .returned v ∧ Q_ce Z p0 h0 n0 v s₂.heap L ∧ FrameEnd s o s₂ L ({ frames := 0, cells := 0, slots := 0, locals := 0 } : Room).cells ({ frames := 0, cells := 0, slots := 0, locals := 0 } : Room).slots) _
  refine Wp.back (U' := (s₁.setTop (mkF m 0 #[.val (.int p0)] []))) (fun t k => castTop (ef2 m p0) k) ?_
  refine Wp.back (U' := (s₁.setTop (mkF m 12 #[.val (.int p0)] [(.int (1 : Int32))]))) (fun t k => XS.iloadN X0.here hx rfl (hb hby d2_0) rfl (XT.sipushV X0.here hx rfl (255 : Int32) (hb hby d2_1) (by decide) (XS.icmpNo X0.here hx rfl (hb hby d2_4) rfl (flt h255).2.2.1 (XT.iconstV X0.here hx rfl (1 : Int32) (hb hby d2_7) (by decide) (XS.goto X0.here hx rfl (pc0 := 8) (pc' := 12) rfl (hb hby d2_8) (by decide) (by decide) k))))) ?_
  obtain ⟨fs, hr, hrun, hended, hW, hsame⟩ := X0.leave (v := (some (.int (1 : Int32)))) (fun h => by rw [hret] at h; cases h)
  refine Wp.done (retN X0 hx (t := .boolean) hret (by simp) (hb hby d2_12) hr) hrun hended ⟨_, _, rfl, ?_, ⟨_, rfl⟩, hW, hsame.mono (by decide) (by decide)⟩
  show Q_ce Z p0 h0 n0 _ s₁.heap _
  rw [e0]
  exact ⟨rfl, N0, (Keep.refl h0 [])⟩
def Q_tb (Z : State) (p0 : Int32)  (h0 : Heap) (n0 : Nat) (v : Option Value) (h : Heap) (L : List Loc) : Prop := ∃ fr0 : Addr, ∃ fk0 : ClassId, v = some (.ref fr0) ∧ Fr n0 L ∧ Keep h0 h [] ∧ h0.size ≤ fr0 ∧ Arv Z h fr0 fk0 .byte (1 : Int32) [(.int (nar .byte (p0).toInt8.toInt32))] (.int (0 : Int32))
theorem d3_0 : decode jdk_43_method_46_code 0 = .ok (.iconst 1, 1) := by decide +kernel
theorem d3_1 : decode jdk_43_method_46_code 1 = .ok (.newarray .byte, 2) := by decide +kernel
theorem d3_3 : decode jdk_43_method_46_code 3 = .ok (.dup, 1) := by decide +kernel
theorem d3_4 : decode jdk_43_method_46_code 4 = .ok (.iconst 0, 1) := by decide +kernel
theorem d3_5 : decode jdk_43_method_46_code 5 = .ok (.iload_n 0, 1) := by decide +kernel
theorem d3_6 : decode jdk_43_method_46_code 6 = .ok (.i2b, 1) := by decide +kernel
theorem d3_7 : decode jdk_43_method_46_code 7 = .ok (.bastore, 1) := by decide +kernel
theorem d3_8 : decode jdk_43_method_46_code 8 = .ok (.areturn, 1) := by decide +kernel
theorem pn3 : plainName "java/lang/StringLatin1" = true := by first | (simp [plainName, overriddenIn]; done) | decide +kernel
theorem ef3 (m : MethodId) (x0 : Int32) : entryFrame m #[(.int x0)] 1 = mkF m 0 #[.val (.int x0)] [] := by first | (simp [entryFrame, mkF, argsToLocals, Value.category]; done) | rfl
set_option maxRecDepth 65536 in
set_option maxHeartbeats 40000000 in
theorem rm_tb (l : Launch) (Z : State) (a0 : Array Value) (hw : ∀ d ∈ tables_1, d.before a0 Z = true) (ws : List Jvm.Cond) (p0 : Int32)  (h0 : Heap) (n0 : Nat) (Z0 : n0 ≤ h0.size)  :
    MetFree l (⟨"java/lang/StringLatin1", "toBytes", "(C)[B"⟩ : MethodName) (head1 (Jvm.Cond.code (⟨"java/lang/StringLatin1", "toBytes", "(C)[B"⟩ : MethodName) jdk_43_method_46_code 1 (some (.array .byte)) :: ws) ({ frames := 0, cells := 1, slots := 1, locals := 0 } : Room)) (fun a U => a = #[(.int p0)] ∧ Z.Warmed39 U.vm ∧ U.heap = h0) (fun _ _ _ _ _ => True) (fun _ U o U' => ∃ v L, o = .returned v ∧ Q_tb Z p0 h0 n0 v U'.heap L ∧ FrameEnd U o U' L ({ frames := 0, cells := 1, slots := 1, locals := 0 } : Room).cells ({ frames := 0, cells := 1, slots := 1, locals := 0 } : Room).slots) := by
  refine MetFree.of_bodySF (plainFor_of_name pn3) hisR ?_
  intro p e s m args below meth c s₁ Bd hml0 hP hK
  obtain ⟨rfl, hZ, hh⟩ := hP
  have hx := Bd.exec
  have hby := Bd.bytes
  have hret := Bd.returns
  have hlk := Bd.notSynchronized
  have hml : c.maxLocals = 1 := hml0
  have hown : s.vm.findClass "java/lang/StringLatin1" = some m.cls := findClass_of_methodNamed Bd.named
  have hnm := (name_of_methodNamed Bd.named Bd.method).1
  have X0 : Stand p l e ({ frames := 0, cells := 1, slots := 1, locals := 0 } : Room) s m #[(.int p0)] below meth c s₁ [] 0 0 := Stand.of_body Bd
  have e0 : s₁.heap = h0 := by rw [← hh, Bd.state]; rfl
  have N0 := Fr.nil n0
  show Wp p e below (fun o s₂ => ∃ v L, o = .returned v ∧ Q_tb Z p0 h0 n0 v s₂.heap L ∧ FrameEnd s o s₂ L ({ frames := 0, cells := 1, slots := 1, locals := 0 } : Room).cells ({ frames := 0, cells := 1, slots := 1, locals := 0 } : Room).slots) _
  refine Wp.back (U' := (s₁.setTop (mkF m 0 #[.val (.int p0)] []))) (fun t k => castTop (ef3 m p0) k) ?_
  refine Wp.back (U' := (s₁.setTop (mkF m 1 #[.val (.int p0)] [(.int (1 : Int32))]))) (fun t k => XT.iconstV X0.here hx rfl (1 : Int32) (hb hby d3_0) (by decide) k) ?_
  obtain ⟨T1, h1, k1, X1, e1, E1, A1, st1⟩ := newP X0 hx hZ (hw _ (List.mem_of_getElem? (i := 14) rfl)) e0 (g := (mkF m 1 #[.val (.int p0)] [(.int (1 : Int32))])) rfl (hb hby d3_1) rfl (by decide) (cap := 1) (by decide) (by decide) (by decide) (by decide)
  obtain ⟨b1, g1⟩ : ∃ z, z = h0.size := ⟨_, rfl⟩
  rw [← g1] at A1 st1
  have g_b1 : n0 ≤ b1 := Nat.le_trans Z0 (Nat.le_of_eq g1.symm)
  have sz_b1 : h0.size ≤ b1 := Nat.le_trans (Keep.refl h0 []).1 (Nat.le_of_eq g1.symm)
  have f2_0 := Nat.le_trans Z0 E1.1
  have f2_1 := (Keep.refl h0 []).ext E1
  have V1 : Arv Z h1 b1 k1 .byte (1 : Int32) [(.int (0 : Int32))] (.int (0 : Int32)) := (Arv.new A1 (by decide)).pad (pad_rep [] (.int (0 : Int32)) 1)
  refine Wp.back (U' := (T1.setTop (mkF m 3 #[.val (.int p0)] [(.ref b1)]))) st1 ?_
  refine Wp.back (U' := (T1.setTop (mkF m 7 #[.val (.int p0)] [(.int (p0).toInt8.toInt32), (.int (0 : Int32)), (.ref b1), (.ref b1)]))) (fun t k => XS.dup X1.here hx rfl (hb hby d3_3) rfl rfl (XT.iconstV X1.here hx rfl (0 : Int32) (hb hby d3_4) (by decide) (XS.iloadN X1.here hx rfl (hb hby d3_5) rfl (XS.i2b X1.here hx rfl (hb hby d3_6) rfl k)))) ?_
  have vq3 := V1
  obtain ⟨cl3, Ar3, qa3, qs3, qn3, qh3, qg3⟩ := vq3
  have hin3 : ¬ ((0 : Int32) < 0 ∨ cl3.slots.size ≤ ((0 : Int32)).toNatClampNeg) := inb_of qs3 ⟨by decide, by decide⟩
  obtain ⟨T3, h3, X3, e3, W3, st3⟩ := stB X1 hx hZ e1 Ar3 (j := (0 : Int32)) hin3 (g := (mkF m 7 #[.val (.int p0)] [(.int (p0).toInt8.toInt32), (.int (0 : Int32)), (.ref b1), (.ref b1)])) rfl rfl (hb hby d3_7)
  have V3 : Arv Z h3 b1 k1 .byte (1 : Int32) [(.int (nar .byte (p0).toInt8.toInt32))] (.int (0 : Int32)) := Arv.set Ar3 qa3 qs3 qn3 qh3 qg3 (fits_nar_byte (p0).toInt8.toInt32) W3 0 rfl (Nat.le_of_ble_eq_true rfl)
  have f4_0 := Nat.le_trans f2_0 (Keep.of_wr W3).1
  have f4_1 := f2_1.wr W3 (Or.inr sz_b1)
  have N3 := Fr.snoc X3 N0 g_b1
  refine Wp.back (U' := (T3.setTop (mkF m 8 #[.val (.int p0)] [(.ref b1)]))) st3 ?_
  obtain ⟨fs, hr, hrun, hended, hW, hsame⟩ := X3.leave (v := (some (.ref b1))) (fun h => by rw [hret] at h; cases h)
  refine Wp.done (retOut X3 hx hret rfl (Or.inr (Or.inr (Or.inr (Or.inr ⟨rfl, rfl, rfl⟩)))) (hb hby d3_8) hr) hrun hended ⟨_, _, rfl, ?_, ⟨_, rfl⟩, hW, hsame.mono (by decide) (by decide)⟩
  show Q_tb Z p0 h0 n0 _ T3.heap _
  rw [e3]
  exact ⟨b1, k1, rfl, N3, f4_1, sz_b1, V3⟩
def Q_si (Z : State) (ar : Addr) (vb : Addr)  (h0 : Heap) (n0 : Nat) (v : Option Value) (h : Heap) (L : List Loc) : Prop := v = none ∧ Fr n0 L ∧ Keep h0 h [ar] ∧ Exa Z h ar "java/lang/String"
theorem d4_0 : decode jdk_42_method_151_code 0 = .ok (.aload_n 0, 1) := by decide +kernel
theorem d4_1 : decode jdk_42_method_151_code 1 = .ok (.invokespecial 1, 3) := by decide +kernel
theorem d4_4 : decode jdk_42_method_151_code 4 = .ok (.aload_n 0, 1) := by decide +kernel
theorem d4_5 : decode jdk_42_method_151_code 5 = .ok (.aload_n 1, 1) := by decide +kernel
theorem d4_6 : decode jdk_42_method_151_code 6 = .ok (.putfield 9, 3) := by decide +kernel
theorem d4_9 : decode jdk_42_method_151_code 9 = .ok (.aload_n 0, 1) := by decide +kernel
theorem d4_10 : decode jdk_42_method_151_code 10 = .ok (.iload_n 2, 1) := by decide +kernel
theorem d4_11 : decode jdk_42_method_151_code 11 = .ok (.putfield 15, 3) := by decide +kernel
theorem d4_14 : decode jdk_42_method_151_code 14 = .ok (.return_, 1) := by decide +kernel
theorem pn4 : plainName "java/lang/String" = true := by first | (simp [plainName, overriddenIn]; done) | decide +kernel
theorem ef4 (m : MethodId) (x0 : Addr) (x1 : Addr) (x2 : Int32) : entryFrame m #[(.ref x0), (.ref x1), (.int x2)] 3 = mkF m 0 #[.val (.ref x0), .val (.ref x1), .val (.int x2)] [] := by first | (simp [entryFrame, mkF, argsToLocals, Value.category]; done) | rfl
set_option maxRecDepth 65536 in
set_option maxHeartbeats 40000000 in
theorem rm_si (l : Launch) (Z : State) (a0 : Array Value) (hw : ∀ d ∈ tables_1, d.before a0 Z = true) (ws : List Jvm.Cond) (ar : Addr) (vb : Addr)  (h0 : Heap) (n0 : Nat) (Z0 : n0 ≤ h0.size) (H0 : Exa Z h0 ar "java/lang/String") (H1 : Fld Z h0 ar "java/lang/String" "value" "[B" .null) (H2 : Fld Z h0 ar "java/lang/String" "coder" "B" (.int (0 : Int32))) (g_ar : n0 ≤ ar) :
    MetFree l (⟨"java/lang/String", "<init>", "([BB)V"⟩ : MethodName) (head1 (Jvm.Cond.code (⟨"java/lang/String", "<init>", "([BB)V"⟩ : MethodName) jdk_42_method_151_code 3 none :: ws) ({ frames := 1, cells := 0, slots := 0, locals := 12 } : Room)) (fun a U => a = #[(.ref ar), (.ref vb), (.int (0 : Int32))] ∧ Z.Warmed39 U.vm ∧ U.heap = h0) (fun _ _ _ _ _ => True) (fun _ U o U' => ∃ v L, o = .returned v ∧ Q_si Z ar vb h0 n0 v U'.heap L ∧ FrameEnd U o U' L ({ frames := 1, cells := 0, slots := 0, locals := 12 } : Room).cells ({ frames := 1, cells := 0, slots := 0, locals := 12 } : Room).slots) := by
  refine MetFree.of_bodySF (plainFor_of_name pn4) hisR ?_
  intro p e s m args below meth c s₁ Bd hml0 hP hK
  obtain ⟨rfl, hZ, hh⟩ := hP
  have hx := Bd.exec
  have hby := Bd.bytes
  have hret := Bd.returns
  have hlk := Bd.notSynchronized
  have hml : c.maxLocals = 3 := hml0
  have hown : s.vm.findClass "java/lang/String" = some m.cls := findClass_of_methodNamed Bd.named
  have hnm := (name_of_methodNamed Bd.named Bd.method).1
  have X0 : Stand p l e ({ frames := 1, cells := 0, slots := 0, locals := 12 } : Room) s m #[(.ref ar), (.ref vb), (.int (0 : Int32))] below meth c s₁ [] 0 0 := Stand.of_body Bd
  have e0 : s₁.heap = h0 := by rw [← hh, Bd.state]; rfl
  have N0 := Fr.nil n0
  show Wp p e below (fun o s₂ => ∃ v L, o = .returned v ∧ Q_si Z ar vb h0 n0 v s₂.heap L ∧ FrameEnd s o s₂ L ({ frames := 1, cells := 0, slots := 0, locals := 12 } : Room).cells ({ frames := 1, cells := 0, slots := 0, locals := 12 } : Room).slots) _
  refine Wp.back (U' := (s₁.setTop (mkF m 0 #[.val (.ref ar), .val (.ref vb), .val (.int (0 : Int32))] []))) (fun t k => castTop (ef4 m ar vb (0 : Int32)) k) ?_
  refine Wp.back (U' := (s₁.setTop (mkF m 1 #[.val (.ref ar), .val (.ref vb), .val (.int (0 : Int32))] [(.ref ar)]))) (fun t k => XS.aloadN X0.here hx rfl (hb hby d4_0) rfl rfl k) ?_
  obtain ⟨T1, X1, e1, st1⟩ := initO X0 hx hZ hown (hw _ (List.mem_of_getElem? (i := 19) rfl)) (hw _ (List.mem_of_getElem? (i := 20) rfl)) (hw _ (List.mem_of_getElem? (i := 21) rfl)) e0 (g := (mkF m 1 #[.val (.ref ar), .val (.ref vb), .val (.int (0 : Int32))] [(.ref ar)])) rfl (by rw [hml]; rfl) rfl (hb hby d4_1) (by decide) (W := 0) (by show 2 * 0 + _ ≤ _; exact Nat.le_of_eq rfl) (by decide)
  refine Wp.back (U' := (T1.setTop (mkF m 4 #[.val (.ref ar), .val (.ref vb), .val (.int (0 : Int32))] []))) st1 ?_
  refine Wp.back (U' := (T1.setTop (mkF m 6 #[.val (.ref ar), .val (.ref vb), .val (.int (0 : Int32))] [(.ref vb), (.ref ar)]))) (fun t k => XS.aloadN X1.here hx rfl (hb hby d4_4) rfl rfl (XS.aloadN X1.here hx rfl (hb hby d4_5) rfl rfl k)) ?_
  obtain ⟨T2, h2, X2, e2, W2, st2⟩ := putF X1 hx hZ hown (host := "") (Or.inl (hw _ (List.mem_of_getElem? (i := 22) rfl))) Via.refl e1 H1 H0 (Or.inr ⟨(hw _ (List.mem_of_getElem? (i := 23) rfl)), rfl, hnm⟩) (hw _ (List.mem_of_getElem? (i := 10) rfl)) (ty := (.array .byte)) (by decide) rfl rfl (g := (mkF m 6 #[.val (.ref ar), .val (.ref vb), .val (.int (0 : Int32))] [(.ref vb), (.ref ar)])) rfl rfl (hb hby d4_6)
  have Fw2 := H1.same W2
  have f3_0 := Nat.le_trans Z0 (Keep.of_wr W2).1
  have f3_1 := H0.wr W2
  have f3_2 := H2.other W2 (Or.inr (slot_ne (Or.inr (hw _ (List.mem_of_getElem? (i := 25) rfl))) (Or.inr (hw _ (List.mem_of_getElem? (i := 23) rfl))) (by decide) (t := .byte) (t' := (.array .byte)) (by decide) (by decide)))
  have f3_3 := (Keep.refl h0 [ar]).wr W2 (Or.inl (List.mem_of_getElem? (i := 0) rfl))
  have N2 := Fr.snoc X2 N0 g_ar
  refine Wp.back (U' := (T2.setTop (mkF m 9 #[.val (.ref ar), .val (.ref vb), .val (.int (0 : Int32))] []))) st2 ?_
  refine Wp.back (U' := (T2.setTop (mkF m 11 #[.val (.ref ar), .val (.ref vb), .val (.int (0 : Int32))] [(.int (0 : Int32)), (.ref ar)]))) (fun t k => XS.aloadN X2.here hx rfl (hb hby d4_9) rfl rfl (XS.iloadN X2.here hx rfl (hb hby d4_10) rfl k)) ?_
  obtain ⟨T4, h4, X4, e4, W4, st4⟩ := putFN X2 hx hZ hown (hw _ (List.mem_of_getElem? (i := 24) rfl)) Via.refl e2 f3_2 f3_1 (Or.inr ⟨(hw _ (List.mem_of_getElem? (i := 25) rfl)), rfl, hnm⟩) (hw _ (List.mem_of_getElem? (i := 10) rfl)) (ty := .byte) (v' := .int (0 : Int32)) (by decide) rfl rfl (g := (mkF m 11 #[.val (.ref ar), .val (.ref vb), .val (.int (0 : Int32))] [(.int (0 : Int32)), (.ref ar)])) rfl rfl (hb hby d4_11)
  have Fw4 := f3_2.same W4
  have f5_0 := Nat.le_trans f3_0 (Keep.of_wr W4).1
  have f5_1 := f3_1.wr W4
  have f5_2 := f3_3.wr W4 (Or.inl (List.mem_of_getElem? (i := 0) rfl))
  have f5_3 := Fw2.other W4 (Or.inr (slot_ne (Or.inr (hw _ (List.mem_of_getElem? (i := 23) rfl))) (Or.inr (hw _ (List.mem_of_getElem? (i := 25) rfl))) (by decide) (t := (.array .byte)) (t' := .byte) (by decide) (by decide)))
  have N4 := Fr.snoc X4 N2 g_ar
  refine Wp.back (U' := (T4.setTop (mkF m 14 #[.val (.ref ar), .val (.ref vb), .val (.int (0 : Int32))] []))) st4 ?_
  obtain ⟨fs, hr, hrun, hended, hW, hsame⟩ := X4.leave (v := none) (fun _ => rfl)
  refine Wp.done (X4.returnOut hx hret (hb hby d4_14) hr) hrun hended ⟨_, _, rfl, ?_, ⟨_, rfl⟩, hW, hsame.mono (by decide) (by decide)⟩
  show Q_si Z ar vb h0 n0 _ T4.heap _
  rw [e4]
  exact ⟨rfl, N4, f5_2, f5_1⟩
def Q_vo (Z : State) (p0 : Int32) (cs : Int32) (h0 : Heap) (n0 : Nat) (v : Option Value) (h : Heap) (L : List Loc) : Prop := ∃ fr0 : Addr, v = some (.ref fr0) ∧ Fr n0 L ∧ Keep h0 h [] ∧ h0.size ≤ fr0 ∧ Exa Z h fr0 "java/lang/String"
theorem d1_0 : decode jdk_42_method_139_code 0 = .ok (.getstatic 38, 3) := by decide +kernel
theorem d1_3 : decode jdk_42_method_139_code 3 = .ok (.ifCond .eq 23, 3) := by decide +kernel
theorem d1_6 : decode jdk_42_method_139_code 6 = .ok (.iload_n 0, 1) := by decide +kernel
theorem d1_7 : decode jdk_42_method_139_code 7 = .ok (.invokestatic 1015, 3) := by decide +kernel
theorem d1_10 : decode jdk_42_method_139_code 10 = .ok (.ifCond .eq 16, 3) := by decide +kernel
theorem d1_13 : decode jdk_42_method_139_code 13 = .ok (.new 10, 3) := by decide +kernel
theorem d1_16 : decode jdk_42_method_139_code 16 = .ok (.dup, 1) := by decide +kernel
theorem d1_17 : decode jdk_42_method_139_code 17 = .ok (.iload_n 0, 1) := by decide +kernel
theorem d1_18 : decode jdk_42_method_139_code 18 = .ok (.invokestatic 1018, 3) := by decide +kernel
theorem d1_21 : decode jdk_42_method_139_code 21 = .ok (.iconst 0, 1) := by decide +kernel
theorem d1_22 : decode jdk_42_method_139_code 22 = .ok (.invokespecial 209, 3) := by decide +kernel
theorem d1_25 : decode jdk_42_method_139_code 25 = .ok (.areturn, 1) := by decide +kernel
theorem pd1_0 : parseMethodDescriptor "(C)Z" = some ⟨[.char], some .boolean⟩ := by decide +kernel
theorem pd1_1 : parseMethodDescriptor "(C)[B" = some ⟨[.char], some (.array .byte)⟩ := by decide +kernel
theorem pd1_2 : parseMethodDescriptor "([BB)V" = some ⟨[(.array .byte), .byte], none⟩ := by decide +kernel
theorem pn1 : plainName "java/lang/String" = true := by first | (simp [plainName, overriddenIn]; done) | decide +kernel
theorem ef1 (m : MethodId) (x0 : Int32) : entryFrame m #[(.int x0)] 1 = mkF m 0 #[.val (.int x0)] [] := by first | (simp [entryFrame, mkF, argsToLocals, Value.category]; done) | rfl
set_option maxRecDepth 65536 in
set_option maxHeartbeats 40000000 in
theorem rm_vo (l : Launch) (Z : State) (a0 : Array Value) (hw : ∀ d ∈ tables_1, d.before a0 Z = true) (ws : List Jvm.Cond) (p0 : Int32) (cs : Int32) (h0 : Heap) (n0 : Nat) (Z0 : n0 ≤ h0.size) (H0 : Sta Z h0 "java/lang/String" "COMPACT_STRINGS" "Z" (.int cs)) (hcs : ¬ cs = (0 : Int32)) (h255 : ¬ (255 : Int32) < p0) :
    MetFree l (⟨"java/lang/String", "valueOf", "(C)Ljava/lang/String;"⟩ : MethodName) (head1 (Jvm.Cond.code (⟨"java/lang/String", "valueOf", "(C)Ljava/lang/String;"⟩ : MethodName) jdk_42_method_139_code 1 (some (.object "java/lang/String")) :: ws) ({ frames := 2, cells := 2, slots := 5, locals := 27 } : Room)) (fun a U => a = #[(.int p0)] ∧ Z.Warmed39 U.vm ∧ U.heap = h0) (fun _ _ _ _ _ => True) (fun _ U o U' => ∃ v L, o = .returned v ∧ Q_vo Z p0 cs h0 n0 v U'.heap L ∧ FrameEnd U o U' L ({ frames := 2, cells := 2, slots := 5, locals := 27 } : Room).cells ({ frames := 2, cells := 2, slots := 5, locals := 27 } : Room).slots) := by
  refine MetFree.of_bodySF (plainFor_of_name pn1) hisR ?_
  intro p e s m args below meth c s₁ Bd hml0 hP hK
  obtain ⟨rfl, hZ, hh⟩ := hP
  have hx := Bd.exec
  have hby := Bd.bytes
  have hret := Bd.returns
  have hlk := Bd.notSynchronized
  have hml : c.maxLocals = 1 := hml0
  have hown : s.vm.findClass "java/lang/String" = some m.cls := findClass_of_methodNamed Bd.named
  have hnm := (name_of_methodNamed Bd.named Bd.method).1
  have X0 : Stand p l e ({ frames := 2, cells := 2, slots := 5, locals := 27 } : Room) s m #[(.int p0)] below meth c s₁ [] 0 0 := Stand.of_body Bd
  have e0 : s₁.heap = h0 := by rw [← hh, Bd.state]; rfl
  have N0 := Fr.nil n0
  show Wp p e below (fun o s₂ => ∃ v L, o = .returned v ∧ Q_vo Z p0 cs h0 n0 v s₂.heap L ∧ FrameEnd s o s₂ L ({ frames := 2, cells := 2, slots := 5, locals := 27 } : Room).cells ({ frames := 2, cells := 2, slots := 5, locals := 27 } : Room).slots) _
  refine Wp.back (U' := (s₁.setTop (mkF m 0 #[.val (.int p0)] []))) (fun t k => castTop (ef1 m p0) k) ?_
  obtain ⟨T1, X1, e1, st1⟩ := getS2 X0 hx hZ hown (host := "") (Or.inl (hw _ (List.mem_of_getElem? (i := 4) rfl))) Via.refl e0 H0 (g := (mkF m 0 #[.val (.int p0)] [])) rfl (hb hby d1_0)
  refine Wp.back (U' := (T1.setTop (mkF m 3 #[.val (.int p0)] [(.int cs)]))) st1 ?_
  refine Wp.back (U' := (T1.setTop (mkF m 7 #[.val (.int p0)] [(.int p0)]))) (fun t k => XS.ifNo X1.here hx rfl (hb hby d1_3) rfl ((if0 _ _).trans (feq hcs).1) (XS.iloadN X1.here hx rfl (hb hby d1_6) rfl k)) ?_
  obtain ⟨_, _, ⟨T2, L2, k2, n2⟩, -, X2, ⟨Lc2, hQ2, l2, y2, z2⟩, st2⟩ := Jvm.LawKit.callS X1 hx (y := (⟨"java/lang/StringLatin1", "canEncode", "(C)Z"⟩ : MethodName)) hown (mvT hZ (hw _ (List.mem_of_getElem? (i := 5) rfl))) (mvT hZ (hw _ (List.mem_of_getElem? (i := 6) rfl))) (mvT hZ (hw _ (List.mem_of_getElem? (i := 7) rfl))) (mvT hZ (hw _ (List.mem_of_getElem? (i := 8) rfl))) (by decide) (backOf (W := 0) (rm_ce l Z a0 hw [] p0  h0 n0 Z0 h255) hZ (hw _ (List.mem_of_getElem? (i := 8) rfl)) (hw _ (List.mem_of_getElem? (i := 7) rfl)) (by decide) (by decide)) (g := (mkF m 7 #[.val (.int p0)] [(.int p0)])) rfl (by rw [hml]; rfl) (argsL := [(.int p0)]) (rest := []) (lenOf pd1_0 rfl) rfl (by show 2 * 0 + _ ≤ _; exact Nat.le_of_eq rfl) (hb hby d1_7) (fun _ _ => ⟨rfl, e1, (by decide : 0 + 0 ≤ _), (by decide : 0 + 0 ≤ _)⟩)
  dsimp only [Pt.U, Pt.locs, Pt.cells, Pt.slots] at X2 l2 y2 z2 st2 hQ2
  subst l2 y2 z2
  obtain ⟨rfl, N2q, K2⟩ := hQ2
  have f3_0 := Nat.le_trans Z0 K2.1
  have f3_1 := Sta_keep0 H0 K2
  have f3_2 := (Keep.refl h0 []).trans K2 all0
  have N2 := Fr.app N0 N2q
  refine Wp.back (U' := (T2.setTop (mkF m 10 #[.val (.int p0)] [(.int (1 : Int32))]))) st2 ?_
  refine Wp.back (U' := (T2.setTop (mkF m 13 #[.val (.int p0)] []))) (fun t k => XS.ifNo X2.here hx rfl (hb hby d1_10) rfl ((if0 _ _).trans (feq (by decide)).1) k) ?_
  obtain ⟨T4, h4, X4, e4, E4, A4, D4, -, st4⟩ := newO X2 hx hZ hown (hw _ (List.mem_of_getElem? (i := 9) rfl)) (hw _ (List.mem_of_getElem? (i := 10) rfl)) (hw _ (List.mem_of_getElem? (i := 2) rfl)) rfl (g := (mkF m 13 #[.val (.int p0)] [])) rfl (hb hby d1_13) (by decide) (by decide)
  obtain ⟨b4, g4⟩ : ∃ z, z = T2.heap.size := ⟨_, rfl⟩
  rw [← g4] at A4 D4 st4
  have g_b4 : n0 ≤ b4 := Nat.le_trans f3_0 (Nat.le_of_eq g4.symm)
  have sz_b4 : h0.size ≤ b4 := Nat.le_trans f3_2.1 (Nat.le_of_eq g4.symm)
  have f5_0 := Nat.le_trans f3_0 E4.1
  have f5_1 := f3_1.ext E4
  have f5_2 := f3_2.ext E4
  have F4_23 : Fld Z h4 b4 "java/lang/String" "value" "[B" .null := D4 (Or.inr (hw _ (List.mem_of_getElem? (i := 23) rfl))) (ty := (.array .byte)) (by decide)
  have F4_25 : Fld Z h4 b4 "java/lang/String" "coder" "B" (.int (0 : Int32)) := D4 (Or.inr (hw _ (List.mem_of_getElem? (i := 25) rfl))) (ty := .byte) (by decide)
  refine Wp.back (U' := (T4.setTop (mkF m 16 #[.val (.int p0)] [(.ref b4)]))) st4 ?_
  refine Wp.back (U' := (T4.setTop (mkF m 18 #[.val (.int p0)] [(.int p0), (.ref b4), (.ref b4)]))) (fun t k => XS.dup X4.here hx rfl (hb hby d1_16) rfl rfl (XS.iloadN X4.here hx rfl (hb hby d1_17) rfl k)) ?_
  obtain ⟨_, _, ⟨T6, L6, k6, n6⟩, -, X6, ⟨Lc6, hQ6, l6, y6, z6⟩, st6⟩ := Jvm.LawKit.callS X4 hx (y := (⟨"java/lang/StringLatin1", "toBytes", "(C)[B"⟩ : MethodName)) hown (mvT hZ (hw _ (List.mem_of_getElem? (i := 11) rfl))) (mvT hZ (hw _ (List.mem_of_getElem? (i := 12) rfl))) (mvT hZ (hw _ (List.mem_of_getElem? (i := 7) rfl))) (mvT hZ (hw _ (List.mem_of_getElem? (i := 13) rfl))) (by decide) (backOf (W := 2) (rm_tb l Z a0 hw [] p0  h4 n0 f5_0 ) hZ (hw _ (List.mem_of_getElem? (i := 13) rfl)) (hw _ (List.mem_of_getElem? (i := 7) rfl)) (by decide) (by decide)) (g := (mkF m 18 #[.val (.int p0)] [(.int p0), (.ref b4), (.ref b4)])) rfl (by rw [hml]; rfl) (argsL := [(.int p0)]) (rest := [(.ref b4), (.ref b4)]) (lenOf pd1_1 rfl) rfl (by show 2 * 0 + _ ≤ _; exact Nat.le_of_eq rfl) (hb hby d1_18) (fun _ _ => ⟨rfl, e4, (by decide : 1 + 1 ≤ _), (by decide : 4 + 1 ≤ _)⟩)
  dsimp only [Pt.U, Pt.locs, Pt.cells, Pt.slots] at X6 l6 y6 z6 st6 hQ6
  subst l6 y6 z6
  obtain ⟨b6_0, k6_0, rfl, N6q, K6, sf6_0, o6_0⟩ := hQ6
  have ne_b4_b6_0 : b4 ≠ b6_0 := Nat.ne_of_lt (Nat.lt_of_lt_of_le A4.lt sf6_0)
  have g_b6_0 : n0 ≤ b6_0 := Nat.le_trans f5_0 sf6_0
  have sz_b6_0 : h0.size ≤ b6_0 := Nat.le_trans f5_2.1 sf6_0
  have f7_0 := Nat.le_trans f5_0 K6.1
  have f7_1 := Sta_keep0 f5_1 K6
  have f7_2 := f5_2.trans K6 all0
  have f7_3 := A4.keep K6
  have f7_4 := F4_23.keep K6 nin0
  have f7_5 := F4_25.keep K6 nin0
  have N6 := Fr.app N2 N6q
  refine Wp.back (U' := (T6.setTop (mkF m 21 #[.val (.int p0)] [(.ref b6_0), (.ref b4), (.ref b4)]))) st6 ?_
  refine Wp.back (U' := (T6.setTop (mkF m 22 #[.val (.int p0)] [(.int (0 : Int32)), (.ref b6_0), (.ref b4), (.ref b4)]))) (fun t k => XT.iconstV X6.here hx rfl (0 : Int32) (hb hby d1_21) (by decide) k) ?_
  obtain ⟨_, _, ⟨T8, L8, k8, n8⟩, -, X8, ⟨Lc8, hQ8, l8, y8, z8⟩, st8⟩ := X6.specialBack hx (y := (⟨"java/lang/String", "<init>", "([BB)V"⟩ : MethodName)) rfl hown (mvT hZ (hw _ (List.mem_of_getElem? (i := 15) rfl))) (mvT hZ (hw _ (List.mem_of_getElem? (i := 16) rfl))) (mvT hZ (hw _ (List.mem_of_getElem? (i := 18) rfl))) (by decide) (backOf (W := 1) (rm_si l Z a0 hw [] b4 b6_0  T6.heap n0 f7_0 f7_3 f7_4 f7_5 g_b4) hZ (hw _ (List.mem_of_getElem? (i := 18) rfl)) (hw _ (List.mem_of_getElem? (i := 2) rfl)) (by decide) (by decide)) (g := (mkF m 22 #[.val (.int p0)] [(.int (0 : Int32)), (.ref b6_0), (.ref b4), (.ref b4)])) rfl (by rw [hml]; rfl) (Steps.refl _) (a := b4) (argsL := [(.ref b6_0), (.int (0 : Int32))]) (rest := [(.ref b4)]) (lenOf pd1_2 rfl) rfl (by show 2 * 0 + _ ≤ _; exact Nat.le_of_eq rfl) (hb hby d1_22) (fun _ _ => ⟨rfl, rfl, (by decide : 2 + 0 ≤ _), (by decide : 5 + 0 ≤ _)⟩)
  dsimp only [Pt.U, Pt.locs, Pt.cells, Pt.slots] at X8 l8 y8 z8 st8 hQ8
  subst l8 y8 z8
  obtain ⟨rfl, N8q, K8, o8_0⟩ := hQ8
  have f9_0 := Nat.le_trans f7_0 K8.1
  have f9_1 := Sta_keep f7_1 K8 (allS (Exa_ns f7_3) all0)
  have f9_2 := f7_2.trans K8 (allS (Or.inr sz_b4) all0)
  have f9_3 := f7_3.keep K8
  have f9_6 := o6_0.keep K8 (ninS (Ne.symm ne_b4_b6_0) nin0)
  have N8 := Fr.app N6 N8q
  refine Wp.back (U' := (T8.setTop (mkF m 25 #[.val (.int p0)] [(.ref b4)]))) (fun t k => st8.trans k) ?_
  obtain ⟨fs, hr, hrun, hended, hW, hsame⟩ := X8.leave (v := (some (.ref b4))) (fun h => by rw [hret] at h; cases h)
  refine Wp.done (retOut X8 hx hret rfl (Or.inr (Or.inr (Or.inr (Or.inr ⟨rfl, rfl, rfl⟩)))) (hb hby d1_25) hr) hrun hended ⟨_, _, rfl, ?_, ⟨_, rfl⟩, hW, hsame.mono (by decide) (by decide)⟩
  show Q_vo Z p0 cs h0 n0 _ T8.heap _
  exact ⟨b4, rfl, N8, f9_2, sz_b4, o8_0⟩
def Q_ac (Z : State) (ar : Addr)  (h0 : Heap) (n0 : Nat) (v : Option Value) (h : Heap) (L : List Loc) : Prop := v = none ∧ Fr n0 L ∧ Keep h0 h []
theorem d8_0 : decode jdk_22_method_1_code 0 = .ok (.aload_n 0, 1) := by decide +kernel
theorem d8_1 : decode jdk_22_method_1_code 1 = .ok (.invokespecial 1, 3) := by decide +kernel
theorem d8_4 : decode jdk_22_method_1_code 4 = .ok (.return_, 1) := by decide +kernel
theorem pn8 : plainName "java/util/AbstractCollection" = true := by first | (simp [plainName, overriddenIn]; done) | decide +kernel
theorem ef8 (m : MethodId) (x0 : Addr) : entryFrame m #[(.ref x0)] 1 = mkF m 0 #[.val (.ref x0)] [] := by first | (simp [entryFrame, mkF, argsToLocals, Value.category]; done) | rfl
set_option maxRecDepth 65536 in
set_option maxHeartbeats 40000000 in
theorem rm_ac (l : Launch) (Z : State) (a0 : Array Value) (hw : ∀ d ∈ tables_1, d.before a0 Z = true) (ws : List Jvm.Cond) (ar : Addr)  (h0 : Heap) (n0 : Nat) (Z0 : n0 ≤ h0.size)  :
    MetFree l (⟨"java/util/AbstractCollection", "<init>", "()V"⟩ : MethodName) (head1 (Jvm.Cond.code (⟨"java/util/AbstractCollection", "<init>", "()V"⟩ : MethodName) jdk_22_method_1_code 1 none :: ws) ({ frames := 1, cells := 0, slots := 0, locals := 12 } : Room)) (fun a U => a = #[(.ref ar)] ∧ Z.Warmed39 U.vm ∧ U.heap = h0) (fun _ _ _ _ _ => True) (fun _ U o U' => ∃ v L, o = .returned v ∧ Q_ac Z ar h0 n0 v U'.heap L ∧ FrameEnd U o U' L ({ frames := 1, cells := 0, slots := 0, locals := 12 } : Room).cells ({ frames := 1, cells := 0, slots := 0, locals := 12 } : Room).slots) := by
  refine MetFree.of_bodySF (plainFor_of_name pn8) hisR ?_
  intro p e s m args below meth c s₁ Bd hml0 hP hK
  obtain ⟨rfl, hZ, hh⟩ := hP
  have hx := Bd.exec
  have hby := Bd.bytes
  have hret := Bd.returns
  have hlk := Bd.notSynchronized
  have hml : c.maxLocals = 1 := hml0
  have hown : s.vm.findClass "java/util/AbstractCollection" = some m.cls := findClass_of_methodNamed Bd.named
  have hnm := (name_of_methodNamed Bd.named Bd.method).1
  have X0 : Stand p l e ({ frames := 1, cells := 0, slots := 0, locals := 12 } : Room) s m #[(.ref ar)] below meth c s₁ [] 0 0 := Stand.of_body Bd
  have e0 : s₁.heap = h0 := by rw [← hh, Bd.state]; rfl
  have N0 := Fr.nil n0
  show Wp p e below (fun o s₂ => ∃ v L, o = .returned v ∧ Q_ac Z ar h0 n0 v s₂.heap L ∧ FrameEnd s o s₂ L ({ frames := 1, cells := 0, slots := 0, locals := 12 } : Room).cells ({ frames := 1, cells := 0, slots := 0, locals := 12 } : Room).slots) _
  refine Wp.back (U' := (s₁.setTop (mkF m 0 #[.val (.ref ar)] []))) (fun t k => castTop (ef8 m ar) k) ?_
  refine Wp.back (U' := (s₁.setTop (mkF m 1 #[.val (.ref ar)] [(.ref ar)]))) (fun t k => XS.aloadN X0.here hx rfl (hb hby d8_0) rfl rfl k) ?_
  obtain ⟨T1, X1, e1, st1⟩ := initO X0 hx hZ hown (hw _ (List.mem_of_getElem? (i := 44) rfl)) (hw _ (List.mem_of_getElem? (i := 20) rfl)) (hw _ (List.mem_of_getElem? (i := 21) rfl)) e0 (g := (mkF m 1 #[.val (.ref ar)] [(.ref ar)])) rfl (by rw [hml]; rfl) rfl (hb hby d8_1) (by decide) (W := 0) (by show 2 * 0 + _ ≤ _; exact Nat.le_of_eq rfl) (by decide)
  refine Wp.back (U' := (T1.setTop (mkF m 4 #[.val (.ref ar)] []))) st1 ?_
  obtain ⟨fs, hr, hrun, hended, hW, hsame⟩ := X1.leave (v := none) (fun _ => rfl)
  refine Wp.done (X1.returnOut hx hret (hb hby d8_4) hr) hrun hended ⟨_, _, rfl, ?_, ⟨_, rfl⟩, hW, hsame.mono (by decide) (by decide)⟩
  show Q_ac Z ar h0 n0 _ T1.heap _
  rw [e1]
  exact ⟨rfl, N0, (Keep.refl h0 [])⟩
def Q_ab (Z : State) (ar : Addr)  (h0 : Heap) (n0 : Nat) (v : Option Value) (h : Heap) (L : List Loc) : Prop := v = none ∧ Fr n0 L ∧ Keep h0 h [ar] ∧ Exa Z h ar "java/util/ArrayList" ∧ Fld Z h ar "java/util/AbstractList" "modCount" "I" (.int (0 : Int32)) ∧ Fld Z h ar "java/util/ArrayList" "elementData" "[Ljava/lang/Object;" .null ∧ Fld Z h ar "java/util/ArrayList" "size" "I" (.int (0 : Int32))
theorem d7_0 : decode jdk_39_method_1_code 0 = .ok (.aload_n 0, 1) := by decide +kernel
theorem d7_1 : decode jdk_39_method_1_code 1 = .ok (.invokespecial 1, 3) := by decide +kernel
theorem d7_4 : decode jdk_39_method_1_code 4 = .ok (.aload_n 0, 1) := by decide +kernel
theorem d7_5 : decode jdk_39_method_1_code 5 = .ok (.iconst 0, 1) := by decide +kernel
theorem d7_6 : decode jdk_39_method_1_code 6 = .ok (.putfield 7, 3) := by decide +kernel
theorem d7_9 : decode jdk_39_method_1_code 9 = .ok (.return_, 1) := by decide +kernel
theorem pd7_0 : parseMethodDescriptor "()V" = some ⟨[], none⟩ := by decide +kernel
theorem pn7 : plainName "java/util/AbstractList" = true := by first | (simp [plainName, overriddenIn]; done) | decide +kernel
theorem ef7 (m : MethodId) (x0 : Addr) : entryFrame m #[(.ref x0)] 1 = mkF m 0 #[.val (.ref x0)] [] := by first | (simp [entryFrame, mkF, argsToLocals, Value.category]; done) | rfl
set_option maxRecDepth 65536 in
set_option maxHeartbeats 40000000 in
theorem rm_ab (l : Launch) (Z : State) (a0 : Array Value) (hw : ∀ d ∈ tables_1, d.before a0 Z = true) (ws : List Jvm.Cond) (ar : Addr)  (h0 : Heap) (n0 : Nat) (Z0 : n0 ≤ h0.size) (H0 : Exa Z h0 ar "java/util/ArrayList") (H1 : Fld Z h0 ar "java/util/AbstractList" "modCount" "I" (.int (0 : Int32))) (H2 : Fld Z h0 ar "java/util/ArrayList" "elementData" "[Ljava/lang/Object;" .null) (H3 : Fld Z h0 ar "java/util/ArrayList" "size" "I" (.int (0 : Int32))) (g_ar : n0 ≤ ar) :
    MetFree l (⟨"java/util/AbstractList", "<init>", "()V"⟩ : MethodName) (head1 (Jvm.Cond.code (⟨"java/util/AbstractList", "<init>", "()V"⟩ : MethodName) jdk_39_method_1_code 1 none :: ws) ({ frames := 2, cells := 0, slots := 0, locals := 24 } : Room)) (fun a U => a = #[(.ref ar)] ∧ Z.Warmed39 U.vm ∧ U.heap = h0) (fun _ _ _ _ _ => True) (fun _ U o U' => ∃ v L, o = .returned v ∧ Q_ab Z ar h0 n0 v U'.heap L ∧ FrameEnd U o U' L ({ frames := 2, cells := 0, slots := 0, locals := 24 } : Room).cells ({ frames := 2, cells := 0, slots := 0, locals := 24 } : Room).slots) := by
  refine MetFree.of_bodySF (plainFor_of_name pn7) hisR ?_
  intro p e s m args below meth c s₁ Bd hml0 hP hK
  obtain ⟨rfl, hZ, hh⟩ := hP
  have hx := Bd.exec
  have hby := Bd.bytes
  have hret := Bd.returns
  have hlk := Bd.notSynchronized
  have hml : c.maxLocals = 1 := hml0
  have hown : s.vm.findClass "java/util/AbstractList" = some m.cls := findClass_of_methodNamed Bd.named
  have hnm := (name_of_methodNamed Bd.named Bd.method).1
  have X0 : Stand p l e ({ frames := 2, cells := 0, slots := 0, locals := 24 } : Room) s m #[(.ref ar)] below meth c s₁ [] 0 0 := Stand.of_body Bd
  have e0 : s₁.heap = h0 := by rw [← hh, Bd.state]; rfl
  have N0 := Fr.nil n0
  show Wp p e below (fun o s₂ => ∃ v L, o = .returned v ∧ Q_ab Z ar h0 n0 v s₂.heap L ∧ FrameEnd s o s₂ L ({ frames := 2, cells := 0, slots := 0, locals := 24 } : Room).cells ({ frames := 2, cells := 0, slots := 0, locals := 24 } : Room).slots) _
  refine Wp.back (U' := (s₁.setTop (mkF m 0 #[.val (.ref ar)] []))) (fun t k => castTop (ef7 m ar) k) ?_
  refine Wp.back (U' := (s₁.setTop (mkF m 1 #[.val (.ref ar)] [(.ref ar)]))) (fun t k => XS.aloadN X0.here hx rfl (hb hby d7_0) rfl rfl k) ?_
  obtain ⟨_, _, ⟨T1, L1, k1, n1⟩, -, X1, ⟨Lc1, hQ1, l1, y1, z1⟩, st1⟩ := X0.specialBack hx (y := (⟨"java/util/AbstractCollection", "<init>", "()V"⟩ : MethodName)) rfl hown (mvT hZ (hw _ (List.mem_of_getElem? (i := 38) rfl))) (mvT hZ (hw _ (List.mem_of_getElem? (i := 39) rfl))) (mvT hZ (hw _ (List.mem_of_getElem? (i := 43) rfl))) (by decide) (backOf (W := 0) (rm_ac l Z a0 hw [] ar  h0 n0 Z0 ) hZ (hw _ (List.mem_of_getElem? (i := 43) rfl)) (hw _ (List.mem_of_getElem? (i := 42) rfl)) (by decide) (by decide)) (g := (mkF m 1 #[.val (.ref ar)] [(.ref ar)])) rfl (by rw [hml]; rfl) (Steps.refl _) (a := ar) (argsL := []) (rest := []) (lenOf pd7_0 rfl) rfl (by show 2 * 0 + _ ≤ _; exact Nat.le_of_eq rfl) (hb hby d7_1) (fun _ _ => ⟨rfl, e0, (by decide : 0 + 0 ≤ _), (by decide : 0 + 0 ≤ _)⟩)
  dsimp only [Pt.U, Pt.locs, Pt.cells, Pt.slots] at X1 l1 y1 z1 st1 hQ1
  subst l1 y1 z1
  obtain ⟨rfl, N1q, K1⟩ := hQ1
  have f2_0 := Nat.le_trans Z0 K1.1
  have f2_1 := H0.keep K1
  have f2_2 := H1.keep K1 nin0
  have f2_3 := H2.keep K1 nin0
  have f2_4 := H3.keep K1 nin0
  have f2_5 := (Keep.refl h0 [ar]).trans K1 all0
  have N1 := Fr.app N0 N1q
  refine Wp.back (U' := (T1.setTop (mkF m 4 #[.val (.ref ar)] []))) (fun t k => st1.trans k) ?_
  refine Wp.back (U' := (T1.setTop (mkF m 6 #[.val (.ref ar)] [(.int (0 : Int32)), (.ref ar)]))) (fun t k => XS.aloadN X1.here hx rfl (hb hby d7_4) rfl rfl (XT.iconstV X1.here hx rfl (0 : Int32) (hb hby d7_5) (by decide) k)) ?_
  obtain ⟨T3, h3, X3, e3, W3, st3⟩ := putF X1 hx hZ hown (host := "") (Or.inl (hw _ (List.mem_of_getElem? (i := 45) rfl))) Via.refl rfl f2_2 f2_1 (Or.inl (hw _ (List.mem_of_getElem? (i := 46) rfl))) (hw _ (List.mem_of_getElem? (i := 27) rfl)) (ty := .int) (by decide) rfl rfl (g := (mkF m 6 #[.val (.ref ar)] [(.int (0 : Int32)), (.ref ar)])) rfl rfl (hb hby d7_6)
  have Fw3 := f2_2.same W3
  have f4_0 := Nat.le_trans f2_0 (Keep.of_wr W3).1
  have f4_1 := f2_1.wr W3
  have f4_2 := f2_3.other W3 (Or.inr (slot_ne (Or.inl (hw _ (List.mem_of_getElem? (i := 49) rfl))) (Or.inl (hw _ (List.mem_of_getElem? (i := 46) rfl))) (by decide) (t := (.array (.object "java/lang/Object"))) (t' := .int) (by decide) (by decide)))
  have f4_3 := f2_4.other W3 (Or.inr (slot_ne (Or.inl (hw _ (List.mem_of_getElem? (i := 76) rfl))) (Or.inl (hw _ (List.mem_of_getElem? (i := 46) rfl))) (by decide) (t := .int) (t' := .int) (by decide) (by decide)))
  have f4_4 := f2_5.wr W3 (Or.inl (List.mem_of_getElem? (i := 0) rfl))
  have N3 := Fr.snoc X3 N1 g_ar
  refine Wp.back (U' := (T3.setTop (mkF m 9 #[.val (.ref ar)] []))) st3 ?_
  obtain ⟨fs, hr, hrun, hended, hW, hsame⟩ := X3.leave (v := none) (fun _ => rfl)
  refine Wp.done (X3.returnOut hx hret (hb hby d7_9) hr) hrun hended ⟨_, _, rfl, ?_, ⟨_, rfl⟩, hW, hsame.mono (by decide) (by decide)⟩
  show Q_ab Z ar h0 n0 _ T3.heap _
  rw [e3]
  exact ⟨rfl, N3, f4_4, f4_1, Fw3, f4_2, f4_3⟩
def Q_al (Z : State) (ar : Addr) (de : Addr) (h0 : Heap) (n0 : Nat) (v : Option Value) (h : Heap) (L : List Loc) : Prop := v = none ∧ Fr n0 L ∧ Keep h0 h [ar] ∧ Exa Z h ar "java/util/ArrayList" ∧ Fld Z h ar "java/util/AbstractList" "modCount" "I" (.int (0 : Int32)) ∧ Fld Z h ar "java/util/ArrayList" "elementData" "[Ljava/lang/Object;" (.ref de) ∧ Fld Z h ar "java/util/ArrayList" "size" "I" (.int (0 : Int32))
theorem d6_0 : decode jdk_38_method_2_code 0 = .ok (.aload_n 0, 1) := by decide +kernel
theorem d6_1 : decode jdk_38_method_2_code 1 = .ok (.invokespecial 1, 3) := by decide +kernel
theorem d6_4 : decode jdk_38_method_2_code 4 = .ok (.aload_n 0, 1) := by decide +kernel
theorem d6_5 : decode jdk_38_method_2_code 5 = .ok (.getstatic 39, 3) := by decide +kernel
theorem d6_8 : decode jdk_38_method_2_code 8 = .ok (.putfield 9, 3) := by decide +kernel
theorem d6_11 : decode jdk_38_method_2_code 11 = .ok (.return_, 1) := by decide +kernel
theorem pd6_0 : parseMethodDescriptor "()V" = some ⟨[], none⟩ := by decide +kernel
theorem pn6 : plainName "java/util/ArrayList" = true := by first | (simp [plainName, overriddenIn]; done) | decide +kernel
theorem ef6 (m : MethodId) (x0 : Addr) : entryFrame m #[(.ref x0)] 1 = mkF m 0 #[.val (.ref x0)] [] := by first | (simp [entryFrame, mkF, argsToLocals, Value.category]; done) | rfl
set_option maxRecDepth 65536 in
set_option maxHeartbeats 40000000 in
theorem rm_al (l : Launch) (Z : State) (a0 : Array Value) (hw : ∀ d ∈ tables_1, d.before a0 Z = true) (ws : List Jvm.Cond) (ar : Addr) (de : Addr) (h0 : Heap) (n0 : Nat) (Z0 : n0 ≤ h0.size) (H0 : Exa Z h0 ar "java/util/ArrayList") (H1 : Fld Z h0 ar "java/util/AbstractList" "modCount" "I" (.int (0 : Int32))) (H2 : Fld Z h0 ar "java/util/ArrayList" "elementData" "[Ljava/lang/Object;" .null) (H3 : Fld Z h0 ar "java/util/ArrayList" "size" "I" (.int (0 : Int32))) (H4 : Sta Z h0 "java/util/ArrayList" "DEFAULTCAPACITY_EMPTY_ELEMENTDATA" "[Ljava/lang/Object;" (.ref de)) (g_ar : n0 ≤ ar) :
    MetFree l (⟨"java/util/ArrayList", "<init>", "()V"⟩ : MethodName) (head1 (Jvm.Cond.code (⟨"java/util/ArrayList", "<init>", "()V"⟩ : MethodName) jdk_38_method_2_code 1 none :: ws) ({ frames := 3, cells := 0, slots := 0, locals := 36 } : Room)) (fun a U => a = #[(.ref ar)] ∧ Z.Warmed39 U.vm ∧ U.heap = h0) (fun _ _ _ _ _ => True) (fun _ U o U' => ∃ v L, o = .returned v ∧ Q_al Z ar de h0 n0 v U'.heap L ∧ FrameEnd U o U' L ({ frames := 3, cells := 0, slots := 0, locals := 36 } : Room).cells ({ frames := 3, cells := 0, slots := 0, locals := 36 } : Room).slots) := by
  refine MetFree.of_bodySF (plainFor_of_name pn6) hisR ?_
  intro p e s m args below meth c s₁ Bd hml0 hP hK
  obtain ⟨rfl, hZ, hh⟩ := hP
  have hx := Bd.exec
  have hby := Bd.bytes
  have hret := Bd.returns
  have hlk := Bd.notSynchronized
  have hml : c.maxLocals = 1 := hml0
  have hown : s.vm.findClass "java/util/ArrayList" = some m.cls := findClass_of_methodNamed Bd.named
  have hnm := (name_of_methodNamed Bd.named Bd.method).1
  have X0 : Stand p l e ({ frames := 3, cells := 0, slots := 0, locals := 36 } : Room) s m #[(.ref ar)] below meth c s₁ [] 0 0 := Stand.of_body Bd
  have e0 : s₁.heap = h0 := by rw [← hh, Bd.state]; rfl
  have N0 := Fr.nil n0
  show Wp p e below (fun o s₂ => ∃ v L, o = .returned v ∧ Q_al Z ar de h0 n0 v s₂.heap L ∧ FrameEnd s o s₂ L ({ frames := 3, cells := 0, slots := 0, locals := 36 } : Room).cells ({ frames := 3, cells := 0, slots := 0, locals := 36 } : Room).slots) _
  refine Wp.back (U' := (s₁.setTop (mkF m 0 #[.val (.ref ar)] []))) (fun t k => castTop (ef6 m ar) k) ?_
  refine Wp.back (U' := (s₁.setTop (mkF m 1 #[.val (.ref ar)] [(.ref ar)]))) (fun t k => XS.aloadN X0.here hx rfl (hb hby d6_0) rfl rfl k) ?_
  obtain ⟨_, _, ⟨T1, L1, k1, n1⟩, -, X1, ⟨Lc1, hQ1, l1, y1, z1⟩, st1⟩ := X0.specialBack hx (y := (⟨"java/util/AbstractList", "<init>", "()V"⟩ : MethodName)) rfl hown (mvT hZ (hw _ (List.mem_of_getElem? (i := 32) rfl))) (mvT hZ (hw _ (List.mem_of_getElem? (i := 33) rfl))) (mvT hZ (hw _ (List.mem_of_getElem? (i := 37) rfl))) (by decide) (backOf (W := 0) (rm_ab l Z a0 hw [] ar  h0 n0 Z0 H0 H1 H2 H3 g_ar) hZ (hw _ (List.mem_of_getElem? (i := 37) rfl)) (hw _ (List.mem_of_getElem? (i := 36) rfl)) (by decide) (by decide)) (g := (mkF m 1 #[.val (.ref ar)] [(.ref ar)])) rfl (by rw [hml]; rfl) (Steps.refl _) (a := ar) (argsL := []) (rest := []) (lenOf pd6_0 rfl) rfl (by show 2 * 0 + _ ≤ _; exact Nat.le_of_eq rfl) (hb hby d6_1) (fun _ _ => ⟨rfl, e0, (by decide : 0 + 0 ≤ _), (by decide : 0 + 0 ≤ _)⟩)
  dsimp only [Pt.U, Pt.locs, Pt.cells, Pt.slots] at X1 l1 y1 z1 st1 hQ1
  subst l1 y1 z1
  obtain ⟨rfl, N1q, K1, o1_0, o1_1, o1_2, o1_3⟩ := hQ1
  have f2_0 := Nat.le_trans Z0 K1.1
  have f2_1 := H0.keep K1
  have f2_5 := Sta_keep H4 K1 (allS (Exa_ns H0) all0)
  have f2_6 := (Keep.refl h0 [ar]).trans K1 (allS (Or.inl (List.mem_of_getElem? (i := 0) rfl)) all0)
  have N1 := Fr.app N0 N1q
  refine Wp.back (U' := (T1.setTop (mkF m 4 #[.val (.ref ar)] []))) (fun t k => st1.trans k) ?_
  refine Wp.back (U' := (T1.setTop (mkF m 5 #[.val (.ref ar)] [(.ref ar)]))) (fun t k => XS.aloadN X1.here hx rfl (hb hby d6_4) rfl rfl k) ?_
  obtain ⟨T3, X3, e3, st3⟩ := getS2 X1 hx hZ hown (host := "") (Or.inl (hw _ (List.mem_of_getElem? (i := 47) rfl))) Via.refl rfl f2_5 (g := (mkF m 5 #[.val (.ref ar)] [(.ref ar)])) rfl (hb hby d6_5)
  refine Wp.back (U' := (T3.setTop (mkF m 8 #[.val (.ref ar)] [(.ref de), (.ref ar)]))) st3 ?_
  obtain ⟨T4, h4, X4, e4, W4, st4⟩ := putF X3 hx hZ hown (host := "") (Or.inl (hw _ (List.mem_of_getElem? (i := 48) rfl))) Via.refl e3 o1_2 o1_0 (Or.inl (hw _ (List.mem_of_getElem? (i := 49) rfl))) (hw _ (List.mem_of_getElem? (i := 27) rfl)) (ty := (.array (.object "java/lang/Object"))) (by decide) rfl rfl (g := (mkF m 8 #[.val (.ref ar)] [(.ref de), (.ref ar)])) rfl rfl (hb hby d6_8)
  have Fw4 := o1_2.same W4
  have f5_0 := Nat.le_trans f2_0 (Keep.of_wr W4).1
  have f5_1 := o1_0.wr W4
  have f5_2 := f2_5.wr W4
  have f5_3 := f2_6.wr W4 (Or.inl (List.mem_of_getElem? (i := 0) rfl))
  have f5_4 := o1_1.other W4 (Or.inr (slot_ne (Or.inl (hw _ (List.mem_of_getElem? (i := 46) rfl))) (Or.inl (hw _ (List.mem_of_getElem? (i := 49) rfl))) (by decide) (t := .int) (t' := (.array (.object "java/lang/Object"))) (by decide) (by decide)))
  have f5_5 := o1_3.other W4 (Or.inr (slot_ne (Or.inl (hw _ (List.mem_of_getElem? (i := 76) rfl))) (Or.inl (hw _ (List.mem_of_getElem? (i := 49) rfl))) (by decide) (t := .int) (t' := (.array (.object "java/lang/Object"))) (by decide) (by decide)))
  have N4 := Fr.snoc X4 N1 g_ar
  refine Wp.back (U' := (T4.setTop (mkF m 11 #[.val (.ref ar)] []))) st4 ?_
  obtain ⟨fs, hr, hrun, hended, hW, hsame⟩ := X4.leave (v := none) (fun _ => rfl)
  refine Wp.done (X4.returnOut hx hret (hb hby d6_11) hr) hrun hended ⟨_, _, rfl, ?_, ⟨_, rfl⟩, hW, hsame.mono (by decide) (by decide)⟩
  show Q_al Z ar de h0 n0 _ T4.heap _
  rw [e4]
  exact ⟨rfl, N4, f5_3, f5_1, f5_4, Fw4, f5_5⟩
def Q_rc (Z : State) (ar : Addr)  (h0 : Heap) (n0 : Nat) (v : Option Value) (h : Heap) (L : List Loc) : Prop := v = none ∧ Fr n0 L ∧ Keep h0 h []
theorem d10_0 : decode jdk_30_method_1_code 0 = .ok (.aload_n 0, 1) := by decide +kernel
theorem d10_1 : decode jdk_30_method_1_code 1 = .ok (.invokespecial 1, 3) := by decide +kernel
theorem d10_4 : decode jdk_30_method_1_code 4 = .ok (.return_, 1) := by decide +kernel
theorem pn10 : plainName "java/lang/Record" = true := by first | (simp [plainName, overriddenIn]; done) | decide +kernel
theorem ef10 (m : MethodId) (x0 : Addr) : entryFrame m #[(.ref x0)] 1 = mkF m 0 #[.val (.ref x0)] [] := by first | (simp [entryFrame, mkF, argsToLocals, Value.category]; done) | rfl
set_option maxRecDepth 65536 in
set_option maxHeartbeats 40000000 in
theorem rm_rc (l : Launch) (Z : State) (a0 : Array Value) (hw : ∀ d ∈ tables_1, d.before a0 Z = true) (ws : List Jvm.Cond) (ar : Addr)  (h0 : Heap) (n0 : Nat) (Z0 : n0 ≤ h0.size)  :
    MetFree l (⟨"java/lang/Record", "<init>", "()V"⟩ : MethodName) (head1 (Jvm.Cond.code (⟨"java/lang/Record", "<init>", "()V"⟩ : MethodName) jdk_30_method_1_code 1 none :: ws) ({ frames := 1, cells := 0, slots := 0, locals := 12 } : Room)) (fun a U => a = #[(.ref ar)] ∧ Z.Warmed39 U.vm ∧ U.heap = h0) (fun _ _ _ _ _ => True) (fun _ U o U' => ∃ v L, o = .returned v ∧ Q_rc Z ar h0 n0 v U'.heap L ∧ FrameEnd U o U' L ({ frames := 1, cells := 0, slots := 0, locals := 12 } : Room).cells ({ frames := 1, cells := 0, slots := 0, locals := 12 } : Room).slots) := by
  refine MetFree.of_bodySF (plainFor_of_name pn10) hisR ?_
  intro p e s m args below meth c s₁ Bd hml0 hP hK
  obtain ⟨rfl, hZ, hh⟩ := hP
  have hx := Bd.exec
  have hby := Bd.bytes
  have hret := Bd.returns
  have hlk := Bd.notSynchronized
  have hml : c.maxLocals = 1 := hml0
  have hown : s.vm.findClass "java/lang/Record" = some m.cls := findClass_of_methodNamed Bd.named
  have hnm := (name_of_methodNamed Bd.named Bd.method).1
  have X0 : Stand p l e ({ frames := 1, cells := 0, slots := 0, locals := 12 } : Room) s m #[(.ref ar)] below meth c s₁ [] 0 0 := Stand.of_body Bd
  have e0 : s₁.heap = h0 := by rw [← hh, Bd.state]; rfl
  have N0 := Fr.nil n0
  show Wp p e below (fun o s₂ => ∃ v L, o = .returned v ∧ Q_rc Z ar h0 n0 v s₂.heap L ∧ FrameEnd s o s₂ L ({ frames := 1, cells := 0, slots := 0, locals := 12 } : Room).cells ({ frames := 1, cells := 0, slots := 0, locals := 12 } : Room).slots) _
  refine Wp.back (U' := (s₁.setTop (mkF m 0 #[.val (.ref ar)] []))) (fun t k => castTop (ef10 m ar) k) ?_
  refine Wp.back (U' := (s₁.setTop (mkF m 1 #[.val (.ref ar)] [(.ref ar)]))) (fun t k => XS.aloadN X0.here hx rfl (hb hby d10_0) rfl rfl k) ?_
  obtain ⟨T1, X1, e1, st1⟩ := initO X0 hx hZ hown (hw _ (List.mem_of_getElem? (i := 61) rfl)) (hw _ (List.mem_of_getElem? (i := 20) rfl)) (hw _ (List.mem_of_getElem? (i := 21) rfl)) e0 (g := (mkF m 1 #[.val (.ref ar)] [(.ref ar)])) rfl (by rw [hml]; rfl) rfl (hb hby d10_1) (by decide) (W := 0) (by show 2 * 0 + _ ≤ _; exact Nat.le_of_eq rfl) (by decide)
  refine Wp.back (U' := (T1.setTop (mkF m 4 #[.val (.ref ar)] []))) st1 ?_
  obtain ⟨fs, hr, hrun, hended, hW, hsame⟩ := X1.leave (v := none) (fun _ => rfl)
  refine Wp.done (X1.returnOut hx hret (hb hby d10_4) hr) hrun hended ⟨_, _, rfl, ?_, ⟨_, rfl⟩, hW, hsame.mono (by decide) (by decide)⟩
  show Q_rc Z ar h0 n0 _ T1.heap _
  rw [e1]
  exact ⟨rfl, N0, (Keep.refl h0 [])⟩
def Q_sp (Z : State) (ar : Addr) (x1 : Addr) (x2 : Addr) (x3 : Addr)  (h0 : Heap) (n0 : Nat) (v : Option Value) (h : Heap) (L : List Loc) : Prop := v = none ∧ Fr n0 L ∧ Keep h0 h [ar] ∧ Exa Z h ar "com/example/treewright/treewright/schema/AugmentTarget$Step"
theorem d9_0 : decode prog_19_method_1_code 0 = .ok (.aload_n 0, 1) := by decide +kernel
theorem d9_1 : decode prog_19_method_1_code 1 = .ok (.invokespecial 1, 3) := by decide +kernel
theorem d9_4 : decode prog_19_method_1_code 4 = .ok (.aload_n 0, 1) := by decide +kernel
theorem d9_5 : decode prog_19_method_1_code 5 = .ok (.aload_n 1, 1) := by decide +kernel
theorem d9_6 : decode prog_19_method_1_code 6 = .ok (.putfield 7, 3) := by decide +kernel
theorem d9_9 : decode prog_19_method_1_code 9 = .ok (.aload_n 0, 1) := by decide +kernel
theorem d9_10 : decode prog_19_method_1_code 10 = .ok (.aload_n 2, 1) := by decide +kernel
theorem d9_11 : decode prog_19_method_1_code 11 = .ok (.putfield 13, 3) := by decide +kernel
theorem d9_14 : decode prog_19_method_1_code 14 = .ok (.aload_n 0, 1) := by decide +kernel
theorem d9_15 : decode prog_19_method_1_code 15 = .ok (.aload_n 3, 1) := by decide +kernel
theorem d9_16 : decode prog_19_method_1_code 16 = .ok (.putfield 16, 3) := by decide +kernel
theorem d9_19 : decode prog_19_method_1_code 19 = .ok (.return_, 1) := by decide +kernel
theorem pd9_0 : parseMethodDescriptor "()V" = some ⟨[], none⟩ := by decide +kernel
theorem pn9 : plainName "com/example/treewright/treewright/schema/AugmentTarget$Step" = true := by first | (simp [plainName, overriddenIn]; done) | decide +kernel
theorem ef9 (m : MethodId) (x0 : Addr) (x1 : Addr) (x2 : Addr) (x3 : Addr) : entryFrame m #[(.ref x0), (.ref x1), (.ref x2), (.ref x3)] 4 = mkF m 0 #[.val (.ref x0), .val (.ref x1), .val (.ref x2), .val (.ref x3)] [] := by first | (simp [entryFrame, mkF, argsToLocals, Value.category]; done) | rfl
set_option maxRecDepth 65536 in
set_option maxHeartbeats 40000000 in
theorem rm_sp (l : Launch) (Z : State) (a0 : Array Value) (hw : ∀ d ∈ tables_1, d.before a0 Z = true) (ws : List Jvm.Cond) (ar : Addr) (x1 : Addr) (x2 : Addr) (x3 : Addr)  (h0 : Heap) (n0 : Nat) (Z0 : n0 ≤ h0.size) (H0 : Exa Z h0 ar "com/example/treewright/treewright/schema/AugmentTarget$Step") (H1 : Fld Z h0 ar "com/example/treewright/treewright/schema/AugmentTarget$Step" "prefix" "Ljava/lang/String;" .null) (H2 : Fld Z h0 ar "com/example/treewright/treewright/schema/AugmentTarget$Step" "module" "Ljava/lang/String;" .null) (H3 : Fld Z h0 ar "com/example/treewright/treewright/schema/AugmentTarget$Step" "name" "Ljava/lang/String;" .null) (g_ar : n0 ≤ ar) :
    MetFree l (⟨"com/example/treewright/treewright/schema/AugmentTarget$Step", "<init>", "(Ljava/lang/String;Ljava/lang/String;Ljava/lang/String;)V"⟩ : MethodName) (head1 (Jvm.Cond.code (⟨"com/example/treewright/treewright/schema/AugmentTarget$Step", "<init>", "(Ljava/lang/String;Ljava/lang/String;Ljava/lang/String;)V"⟩ : MethodName) prog_19_method_1_code 4 none :: ws) ({ frames := 2, cells := 0, slots := 0, locals := 24 } : Room)) (fun a U => a = #[(.ref ar), (.ref x1), (.ref x2), (.ref x3)] ∧ Z.Warmed39 U.vm ∧ U.heap = h0) (fun _ _ _ _ _ => True) (fun _ U o U' => ∃ v L, o = .returned v ∧ Q_sp Z ar x1 x2 x3 h0 n0 v U'.heap L ∧ FrameEnd U o U' L ({ frames := 2, cells := 0, slots := 0, locals := 24 } : Room).cells ({ frames := 2, cells := 0, slots := 0, locals := 24 } : Room).slots) := by
  refine MetFree.of_bodySF (plainFor_of_name pn9) hisR ?_
  intro p e s m args below meth c s₁ Bd hml0 hP hK
  obtain ⟨rfl, hZ, hh⟩ := hP
  have hx := Bd.exec
  have hby := Bd.bytes
  have hret := Bd.returns
  have hlk := Bd.notSynchronized
  have hml : c.maxLocals = 4 := hml0
  have hown : s.vm.findClass "com/example/treewright/treewright/schema/AugmentTarget$Step" = some m.cls := findClass_of_methodNamed Bd.named
  have hnm := (name_of_methodNamed Bd.named Bd.method).1
  have X0 : Stand p l e ({ frames := 2, cells := 0, slots := 0, locals := 24 } : Room) s m #[(.ref ar), (.ref x1), (.ref x2), (.ref x3)] below meth c s₁ [] 0 0 := Stand.of_body Bd
  have e0 : s₁.heap = h0 := by rw [← hh, Bd.state]; rfl
  have N0 := Fr.nil n0
  show Wp p e below (fun o s₂ => ∃ v L, o = .returned v ∧ Q_sp Z ar x1 x2 x3 h0 n0 v s₂.heap L ∧ FrameEnd s o s₂ L ({ frames := 2, cells := 0, slots := 0, locals := 24 } : Room).cells ({ frames := 2, cells := 0, slots := 0, locals := 24 } : Room).slots) _
  refine Wp.back (U' := (s₁.setTop (mkF m 0 #[.val (.ref ar), .val (.ref x1), .val (.ref x2), .val (.ref x3)] []))) (fun t k => castTop (ef9 m ar x1 x2 x3) k) ?_
  refine Wp.back (U' := (s₁.setTop (mkF m 1 #[.val (.ref ar), .val (.ref x1), .val (.ref x2), .val (.ref x3)] [(.ref ar)]))) (fun t k => XS.aloadN X0.here hx rfl (hb hby d9_0) rfl rfl k) ?_
  obtain ⟨_, _, ⟨T1, L1, k1, n1⟩, -, X1, ⟨Lc1, hQ1, l1, y1, z1⟩, st1⟩ := X0.specialBack hx (y := (⟨"java/lang/Record", "<init>", "()V"⟩ : MethodName)) rfl hown (mvT hZ (hw _ (List.mem_of_getElem? (i := 56) rfl))) (mvT hZ (hw _ (List.mem_of_getElem? (i := 57) rfl))) (mvT hZ (hw _ (List.mem_of_getElem? (i := 60) rfl))) (by decide) (backOf (W := 0) (rm_rc l Z a0 hw [] ar  h0 n0 Z0 ) hZ (hw _ (List.mem_of_getElem? (i := 60) rfl)) (hw _ (List.mem_of_getElem? (i := 59) rfl)) (by decide) (by decide)) (g := (mkF m 1 #[.val (.ref ar), .val (.ref x1), .val (.ref x2), .val (.ref x3)] [(.ref ar)])) rfl (by rw [hml]; rfl) (Steps.refl _) (a := ar) (argsL := []) (rest := []) (lenOf pd9_0 rfl) rfl (by show 2 * 0 + _ ≤ _; exact Nat.le_of_eq rfl) (hb hby d9_1) (fun _ _ => ⟨rfl, e0, (by decide : 0 + 0 ≤ _), (by decide : 0 + 0 ≤ _)⟩)
  dsimp only [Pt.U, Pt.locs, Pt.cells, Pt.slots] at X1 l1 y1 z1 st1 hQ1
  subst l1 y1 z1
  obtain ⟨rfl, N1q, K1⟩ := hQ1
  have f2_0 := Nat.le_trans Z0 K1.1
  have f2_1 := H0.keep K1
  have f2_2 := H1.keep K1 nin0
  have f2_3 := H2.keep K1 nin0
  have f2_4 := H3.keep K1 nin0
  have f2_5 := (Keep.refl h0 [ar]).trans K1 all0
  have N1 := Fr.app N0 N1q
  refine Wp.back (U' := (T1.setTop (mkF m 4 #[.val (.ref ar), .val (.ref x1), .val (.ref x2), .val (.ref x3)] []))) (fun t k => st1.trans k) ?_
  refine Wp.back (U' := (T1.setTop (mkF m 6 #[.val (.ref ar), .val (.ref x1), .val (.ref x2), .val (.ref x3)] [(.ref x1), (.ref ar)]))) (fun t k => XS.aloadN X1.here hx rfl (hb hby d9_4) rfl rfl (XS.aloadN X1.here hx rfl (hb hby d9_5) rfl rfl k)) ?_
  obtain ⟨T3, h3, X3, e3, W3, st3⟩ := putF X1 hx hZ hown (host := "") (Or.inl (hw _ (List.mem_of_getElem? (i := 62) rfl))) Via.refl rfl f2_2 f2_1 (Or.inr ⟨(hw _ (List.mem_of_getElem? (i := 63) rfl)), rfl, hnm⟩) (hw _ (List.mem_of_getElem? (i := 51) rfl)) (ty := (.object "java/lang/String")) (by decide) rfl rfl (g := (mkF m 6 #[.val (.ref ar), .val (.ref x1), .val (.ref x2), .val (.ref x3)] [(.ref x1), (.ref ar)])) rfl rfl (hb hby d9_6)
  have Fw3 := f2_2.same W3
  have f4_0 := Nat.le_trans f2_0 (Keep.of_wr W3).1
  have f4_1 := f2_1.wr W3
  have f4_2 := f2_3.other W3 (Or.inr (slot_ne (Or.inr (hw _ (List.mem_of_getElem? (i := 65) rfl))) (Or.inr (hw _ (List.mem_of_getElem? (i := 63) rfl))) (by decide) (t := (.object "java/lang/String")) (t' := (.object "java/lang/String")) (by decide) (by decide)))
  have f4_3 := f2_4.other W3 (Or.inr (slot_ne (Or.inr (hw _ (List.mem_of_getElem? (i := 67) rfl))) (Or.inr (hw _ (List.mem_of_getElem? (i := 63) rfl))) (by decide) (t := (.object "java/lang/String")) (t' := (.object "java/lang/String")) (by decide) (by decide)))
  have f4_4 := f2_5.wr W3 (Or.inl (List.mem_of_getElem? (i := 0) rfl))
  have N3 := Fr.snoc X3 N1 g_ar
  refine Wp.back (U' := (T3.setTop (mkF m 9 #[.val (.ref ar), .val (.ref x1), .val (.ref x2), .val (.ref x3)] []))) st3 ?_
  refine Wp.back (U' := (T3.setTop (mkF m 11 #[.val (.ref ar), .val (.ref x1), .val (.ref x2), .val (.ref x3)] [(.ref x2), (.ref ar)]))) (fun t k => XS.aloadN X3.here hx rfl (hb hby d9_9) rfl rfl (XS.aloadN X3.here hx rfl (hb hby d9_10) rfl rfl k)) ?_
  obtain ⟨T5, h5, X5, e5, W5, st5⟩ := putF X3 hx hZ hown (host := "") (Or.inl (hw _ (List.mem_of_getElem? (i := 64) rfl))) Via.refl e3 f4_2 f4_1 (Or.inr ⟨(hw _ (List.mem_of_getElem? (i := 65) rfl)), rfl, hnm⟩) (hw _ (List.mem_of_getElem? (i := 51) rfl)) (ty := (.object "java/lang/String")) (by decide) rfl rfl (g := (mkF m 11 #[.val (.ref ar), .val (.ref x1), .val (.ref x2), .val (.ref x3)] [(.ref x2), (.ref ar)])) rfl rfl (hb hby d9_11)
  have Fw5 := f4_2.same W5
  have f6_0 := Nat.le_trans f4_0 (Keep.of_wr W5).1
  have f6_1 := f4_1.wr W5
  have f6_2 := f4_3.other W5 (Or.inr (slot_ne (Or.inr (hw _ (List.mem_of_getElem? (i := 67) rfl))) (Or.inr (hw _ (List.mem_of_getElem? (i := 65) rfl))) (by decide) (t := (.object "java/lang/String")) (t' := (.object "java/lang/String")) (by decide) (by decide)))
  have f6_3 := f4_4.wr W5 (Or.inl (List.mem_of_getElem? (i := 0) rfl))
  have f6_4 := Fw3.other W5 (Or.inr (slot_ne (Or.inr (hw _ (List.mem_of_getElem? (i := 63) rfl))) (Or.inr (hw _ (List.mem_of_getElem? (i := 65) rfl))) (by decide) (t := (.object "java/lang/String")) (t' := (.object "java/lang/String")) (by decide) (by decide)))
  have N5 := Fr.snoc X5 N3 g_ar
  refine Wp.back (U' := (T5.setTop (mkF m 14 #[.val (.ref ar), .val (.ref x1), .val (.ref x2), .val (.ref x3)] []))) st5 ?_
  refine Wp.back (U' := (T5.setTop (mkF m 16 #[.val (.ref ar), .val (.ref x1), .val (.ref x2), .val (.ref x3)] [(.ref x3), (.ref ar)]))) (fun t k => XS.aloadN X5.here hx rfl (hb hby d9_14) rfl rfl (XS.aloadN X5.here hx rfl (hb hby d9_15) rfl rfl k)) ?_
  obtain ⟨T7, h7, X7, e7, W7, st7⟩ := putF X5 hx hZ hown (host := "") (Or.inl (hw _ (List.mem_of_getElem? (i := 66) rfl))) Via.refl e5 f6_2 f6_1 (Or.inr ⟨(hw _ (List.mem_of_getElem? (i := 67) rfl)), rfl, hnm⟩) (hw _ (List.mem_of_getElem? (i := 51) rfl)) (ty := (.object "java/lang/String")) (by decide) rfl rfl (g := (mkF m 16 #[.val (.ref ar), .val (.ref x1), .val (.ref x2), .val (.ref x3)] [(.ref x3), (.ref ar)])) rfl rfl (hb hby d9_16)
  have Fw7 := f6_2.same W7
  have f8_0 := Nat.le_trans f6_0 (Keep.of_wr W7).1
  have f8_1 := f6_1.wr W7
  have f8_2 := f6_3.wr W7 (Or.inl (List.mem_of_getElem? (i := 0) rfl))
  have f8_3 := f6_4.other W7 (Or.inr (slot_ne (Or.inr (hw _ (List.mem_of_getElem? (i := 63) rfl))) (Or.inr (hw _ (List.mem_of_getElem? (i := 67) rfl))) (by decide) (t := (.object "java/lang/String")) (t' := (.object "java/lang/String")) (by decide) (by decide)))
  have f8_4 := Fw5.other W7 (Or.inr (slot_ne (Or.inr (hw _ (List.mem_of_getElem? (i := 65) rfl))) (Or.inr (hw _ (List.mem_of_getElem? (i := 67) rfl))) (by decide) (t := (.object "java/lang/String")) (t' := (.object "java/lang/String")) (by decide) (by decide)))
  have N7 := Fr.snoc X7 N5 g_ar
  refine Wp.back (U' := (T7.setTop (mkF m 19 #[.val (.ref ar), .val (.ref x1), .val (.ref x2), .val (.ref x3)] []))) st7 ?_
  obtain ⟨fs, hr, hrun, hended, hW, hsame⟩ := X7.leave (v := none) (fun _ => rfl)
  refine Wp.done (X7.returnOut hx hret (hb hby d9_19) hr) hrun hended ⟨_, _, rfl, ?_, ⟨_, rfl⟩, hW, hsame.mono (by decide) (by decide)⟩
  show Q_sp Z ar x1 x2 x3 h0 n0 _ T7.heap _
  rw [e7]
  exact ⟨rfl, N7, f8_2, f8_1⟩
def Q_mx (Z : State)   (h0 : Heap) (n0 : Nat) (v : Option Value) (h : Heap) (L : List Loc) : Prop := v = some (.int (10 : Int32)) ∧ Fr n0 L ∧ Keep h0 h []
theorem d15_0 : decode jdk_29_method_65_code 0 = .ok (.iload_n 0, 1) := by decide +kernel
theorem d15_1 : decode jdk_29_method_65_code 1 = .ok (.iload_n 1, 1) := by decide +kernel
theorem d15_2 : decode jdk_29_method_65_code 2 = .ok (.if_icmp .lt 7, 3) := by decide +kernel
theorem d15_5 : decode jdk_29_method_65_code 5 = .ok (.iload_n 0, 1) := by decide +kernel
theorem d15_6 : decode jdk_29_method_65_code 6 = .ok (.goto 4, 3) := by decide +kernel
theorem d15_10 : decode jdk_29_method_65_code 10 = .ok (.ireturn, 1) := by decide +kernel
theorem ef15 (m : MethodId) (x0 : Int32) (x1 : Int32) : entryFrame m #[(.int x0), (.int x1)] 2 = mkF m 0 #[.val (.int x0), .val (.int x1)] [] := by first | (simp [entryFrame, mkF, argsToLocals, Value.category]; done) | rfl
set_option maxRecDepth 65536 in
set_option maxHeartbeats 40000000 in
theorem rm_mx (l : Launch) (Z : State) (a0 : Array Value) (hw : ∀ d ∈ tables_1, d.before a0 Z = true) (ws : List Jvm.Cond)   (h0 : Heap) (n0 : Nat) (Z0 : n0 ≤ h0.size)  :
    MetFree l (⟨"java/lang/Math", "max", "(II)I"⟩ : MethodName) (head1 (Jvm.Cond.code (⟨"java/lang/Math", "max", "(II)I"⟩ : MethodName) jdk_29_method_65_code 2 (some .int) :: ws) ({ frames := 0, cells := 0, slots := 0, locals := 0 } : Room)) (fun a U => a = #[(.int (10 : Int32)), (.int (1 : Int32))] ∧ Z.Warmed39 U.vm ∧ U.heap = h0) (fun _ _ _ _ _ => True) (fun _ U o U' => ∃ v L, o = .returned v ∧ Q_mx Z  h0 n0 v U'.heap L ∧ FrameEnd U o U' L ({ frames := 0, cells := 0, slots := 0, locals := 0 } : Room).cells ({ frames := 0, cells := 0, slots := 0, locals := 0 } : Room).slots) := by
  refine MetFree.of_bodySF (Jvm.Free.JP.mathPlain rfl (by decide +kernel)) hisR ?_
  intro p e s m args below meth c s₁ Bd hml0 hP hK
  obtain ⟨rfl, hZ, hh⟩ := hP
  have hx := Bd.exec
  have hby := Bd.bytes
  have hret := Bd.returns
  have hlk := Bd.notSynchronized
  have hml : c.maxLocals = 2 := hml0
  have hown : s.vm.findClass "java/lang/Math" = some m.cls := findClass_of_methodNamed Bd.named
  have hnm := (name_of_methodNamed Bd.named Bd.method).1
  have X0 : Stand p l e ({ frames := 0, cells := 0, slots := 0, locals := 0 } : Room) s m #[(.int (10 : Int32)), (.int (1 : Int32))] below meth c s₁ [] 0 0 := Stand.of_body Bd
  have e0 : s₁.heap = h0 := by rw [← hh, Bd.state]; rfl
  have N0 := Fr.nil n0
  show Wp p e below (fun o s₂ => ∃ v L, o = .returned v ∧ Q_mx Z  h0 n0 v s₂.heap L ∧ FrameEnd s o s₂ L ({ frames := 0, cells := 0, slots := 0, locals := 0 } : Room).cells ({ frames := 0, cells := 0, slots := 0, locals := 0 } : Room).slots) _
  refine Wp.back (U' := (s₁.setTop (mkF m 0 #[.val (.int (10 : Int32)), .val (.int (1 : Int32))] []))) (fun t k => castTop (ef15 m (10 : Int32) (1 : Int32)) k) ?_
  refine Wp.back (U' := (s₁.setTop (mkF m 10 #[.val (.int (10 : Int32)), .val (.int (1 : Int32))] [(.int (10 : Int32))]))) (fun t k => XS.iloadN X0.here hx rfl (hb hby d15_0) rfl (XS.iloadN X0.here hx rfl (hb hby d15_1) rfl (XS.icmpNo X0.here hx rfl (hb hby d15_2) rfl (flt (by decide)).1 (XS.iloadN X0.here hx rfl (hb hby d15_5) rfl (XS.goto X0.here hx rfl (pc0 := 6) (pc' := 10) rfl (hb hby d15_6) (by decide) (by decide) k))))) ?_
  obtain ⟨fs, hr, hrun, hended, hW, hsame⟩ := X0.leave (v := (some (.int (10 : Int32)))) (fun h => by rw [hret] at h; cases h)
  refine Wp.done (retI X0 hx hret (hb hby d15_10) hr) hrun hended ⟨_, _, rfl, ?_, ⟨_, rfl⟩, hW, hsame.mono (by decide) (by decide)⟩
  show Q_mx Z  h0 n0 _ s₁.heap _
  rw [e0]
  exact ⟨rfl, N0, (Keep.refl h0 [])⟩
def Q_g1 (Z : State) (ar : Addr) (de : Addr) (ke : ClassId) (h0 : Heap) (n0 : Nat) (v : Option Value) (h : Heap) (L : List Loc) : Prop := ∃ fr0 : Addr, ∃ fk0 : ClassId, v = some (.ref fr0) ∧ Fr n0 L ∧ Keep h0 h [ar] ∧ h0.size ≤ fr0 ∧ Exa Z h ar "java/util/ArrayList" ∧ Fld Z h ar "java/util/AbstractList" "modCount" "I" (.int (1 : Int32)) ∧ Fld Z h ar "java/util/ArrayList" "size" "I" (.int (0 : Int32)) ∧ Fld Z h ar "java/util/ArrayList" "elementData" "[Ljava/lang/Object;" (.ref fr0) ∧ Arv Z h fr0 fk0 (.object "java/lang/Object") (10 : Int32) [.null, .null, .null, .null, .null, .null, .null, .null, .null, .null] .null ∧ Ovr Z fk0 "java/lang/Object"
theorem d14_0 : decode jdk_38_method_6_code 0 = .ok (.aload_n 0, 1) := by decide +kernel
theorem d14_1 : decode jdk_38_method_6_code 1 = .ok (.getfield 9, 3) := by decide +kernel
theorem d14_4 : decode jdk_38_method_6_code 4 = .ok (.arraylength, 1) := by decide +kernel
theorem d14_5 : decode jdk_38_method_6_code 5 = .ok (.istore_n 2, 1) := by decide +kernel
theorem d14_6 : decode jdk_38_method_6_code 6 = .ok (.iload_n 2, 1) := by decide +kernel
theorem d14_7 : decode jdk_38_method_6_code 7 = .ok (.ifCond .gt 13, 3) := by decide +kernel
theorem d14_10 : decode jdk_38_method_6_code 10 = .ok (.aload_n 0, 1) := by decide +kernel
theorem d14_11 : decode jdk_38_method_6_code 11 = .ok (.getfield 9, 3) := by decide +kernel
theorem d14_14 : decode jdk_38_method_6_code 14 = .ok (.getstatic 39, 3) := by decide +kernel
theorem d14_17 : decode jdk_38_method_6_code 17 = .ok (.if_acmp .eq 28, 3) := by decide +kernel
theorem d14_45 : decode jdk_38_method_6_code 45 = .ok (.aload_n 0, 1) := by decide +kernel
theorem d14_46 : decode jdk_38_method_6_code 46 = .ok (.bipush 10, 2) := by decide +kernel
theorem d14_48 : decode jdk_38_method_6_code 48 = .ok (.iload_n 1, 1) := by decide +kernel
theorem d14_49 : decode jdk_38_method_6_code 49 = .ok (.invokestatic 79, 3) := by decide +kernel
theorem d14_52 : decode jdk_38_method_6_code 52 = .ok (.anewarray 7, 3) := by decide +kernel
theorem d14_55 : decode jdk_38_method_6_code 55 = .ok (.dup_x1, 1) := by decide +kernel
theorem d14_56 : decode jdk_38_method_6_code 56 = .ok (.putfield 9, 3) := by decide +kernel
theorem d14_59 : decode jdk_38_method_6_code 59 = .ok (.areturn, 1) := by decide +kernel
theorem pd14_0 : parseMethodDescriptor "(II)I" = some ⟨[.int, .int], some .int⟩ := by decide +kernel
theorem pn14 : plainName "java/util/ArrayList" = true := by first | (simp [plainName, overriddenIn]; done) | decide +kernel
theorem ef14 (m : MethodId) (x0 : Addr) (x1 : Int32) : entryFrame m #[(.ref x0), (.int x1)] 4 = mkF m 0 #[.val (.ref x0), .val (.int x1), .unset, .unset] [] := by first | (simp [entryFrame, mkF, argsToLocals, Value.category]; done) | rfl
set_option maxRecDepth 65536 in
set_option maxHeartbeats 40000000 in
theorem rm_g1 (l : Launch) (Z : State) (a0 : Array Value) (hw : ∀ d ∈ tables_1, d.before a0 Z = true) (ws : List Jvm.Cond) (ar : Addr) (de : Addr) (ke : ClassId) (h0 : Heap) (n0 : Nat) (Z0 : n0 ≤ h0.size) (H0 : Exa Z h0 ar "java/util/ArrayList") (H1 : Fld Z h0 ar "java/util/ArrayList" "elementData" "[Ljava/lang/Object;" (.ref de)) (H2 : Fld Z h0 ar "java/util/ArrayList" "size" "I" (.int (0 : Int32))) (H3 : Fld Z h0 ar "java/util/AbstractList" "modCount" "I" (.int (1 : Int32))) (H4 : Sta Z h0 "java/util/ArrayList" "DEFAULTCAPACITY_EMPTY_ELEMENTDATA" "[Ljava/lang/Object;" (.ref de)) (H5 : Arv Z h0 de ke (.object "java/lang/Object") (0 : Int32) [] .null) (g_ar : n0 ≤ ar) (ne_ar_de : ar ≠ de) :
    MetFree l (⟨"java/util/ArrayList", "grow", "(I)[Ljava/lang/Object;"⟩ : MethodName) (head1 (Jvm.Cond.code (⟨"java/util/ArrayList", "grow", "(I)[Ljava/lang/Object;"⟩ : MethodName) jdk_38_method_6_code 4 (some (.array (.object "java/lang/Object"))) :: ws) ({ frames := 1, cells := 1, slots := 10, locals := 14 } : Room)) (fun a U => a = #[(.ref ar), (.int (1 : Int32))] ∧ Z.Warmed39 U.vm ∧ U.heap = h0) (fun _ _ _ _ _ => True) (fun _ U o U' => ∃ v L, o = .returned v ∧ Q_g1 Z ar de ke h0 n0 v U'.heap L ∧ FrameEnd U o U' L ({ frames := 1, cells := 1, slots := 10, locals := 14 } : Room).cells ({ frames := 1, cells := 1, slots := 10, locals := 14 } : Room).slots) := by
  refine MetFree.of_bodySF (plainFor_of_name pn14) hisR ?_
  intro p e s m args below meth c s₁ Bd hml0 hP hK
  obtain ⟨rfl, hZ, hh⟩ := hP
  have hx := Bd.exec
  have hby := Bd.bytes
  have hret := Bd.returns
  have hlk := Bd.notSynchronized
  have hml : c.maxLocals = 4 := hml0
  have hown : s.vm.findClass "java/util/ArrayList" = some m.cls := findClass_of_methodNamed Bd.named
  have hnm := (name_of_methodNamed Bd.named Bd.method).1
  have X0 : Stand p l e ({ frames := 1, cells := 1, slots := 10, locals := 14 } : Room) s m #[(.ref ar), (.int (1 : Int32))] below meth c s₁ [] 0 0 := Stand.of_body Bd
  have e0 : s₁.heap = h0 := by rw [← hh, Bd.state]; rfl
  have N0 := Fr.nil n0
  show Wp p e below (fun o s₂ => ∃ v L, o = .returned v ∧ Q_g1 Z ar de ke h0 n0 v s₂.heap L ∧ FrameEnd s o s₂ L ({ frames := 1, cells := 1, slots := 10, locals := 14 } : Room).cells ({ frames := 1, cells := 1, slots := 10, locals := 14 } : Room).slots) _
  refine Wp.back (U' := (s₁.setTop (mkF m 0 #[.val (.ref ar), .val (.int (1 : Int32)), .unset, .unset] []))) (fun t k => castTop (ef14 m ar (1 : Int32)) k) ?_
  refine Wp.back (U' := (s₁.setTop (mkF m 1 #[.val (.ref ar), .val (.int (1 : Int32)), .unset, .unset] [(.ref ar)]))) (fun t k => XS.aloadN X0.here hx rfl (hb hby d14_0) rfl rfl k) ?_
  obtain ⟨T1, X1, e1, st1⟩ := getF X0 hx hZ hown (host := "") (Or.inl (hw _ (List.mem_of_getElem? (i := 48) rfl))) Via.refl e0 H1 (g := (mkF m 1 #[.val (.ref ar), .val (.int (1 : Int32)), .unset, .unset] [(.ref ar)])) rfl rfl (hb hby d14_1)
  refine Wp.back (U' := (T1.setTop (mkF m 4 #[.val (.ref ar), .val (.int (1 : Int32)), .unset, .unset] [(.ref de)]))) st1 ?_
  have vq2 := H5
  obtain ⟨cl2, Ar2, -, qs2, qn2, -, -⟩ := vq2
  refine Wp.back (U' := (T1.setTop (mkF m 5 #[.val (.ref ar), .val (.int (1 : Int32)), .unset, .unset] [(.int (0 : Int32))]))) (fun t k => X1.arraylength hx (by rw [e1]; exact Ar2.1) (State.isArrayOf_alike hZ.alike Ar2.2.1) (g := (mkF m 4 #[.val (.ref ar), .val (.int (1 : Int32)), .unset, .unset] [(.ref de)])) rfl rfl (hb hby d14_4) t (by rw [len_of qs2 qn2]; exact k)) ?_
  refine Wp.back (U' := (T1.setTop (mkF m 11 #[.val (.ref ar), .val (.int (1 : Int32)), .val (.int (0 : Int32)), .unset] [(.ref ar)]))) (fun t k => XS.istoreN X1.here hx rfl (hb hby d14_5) rfl (l' := #[.val (.ref ar), .val (.int (1 : Int32)), .val (.int (0 : Int32)), .unset]) rfl (XS.iloadN X1.here hx rfl (hb hby d14_6) rfl (XS.ifNo X1.here hx rfl (hb hby d14_7) rfl ((if0 _ _).trans (flt (by decide)).2.2.1) (XS.aloadN X1.here hx rfl (hb hby d14_10) rfl rfl k)))) ?_
  obtain ⟨T3, X3, e3, st3⟩ := getF X1 hx hZ hown (host := "") (Or.inl (hw _ (List.mem_of_getElem? (i := 48) rfl))) Via.refl e1 H1 (g := (mkF m 11 #[.val (.ref ar), .val (.int (1 : Int32)), .val (.int (0 : Int32)), .unset] [(.ref ar)])) rfl rfl (hb hby d14_11)
  refine Wp.back (U' := (T3.setTop (mkF m 14 #[.val (.ref ar), .val (.int (1 : Int32)), .val (.int (0 : Int32)), .unset] [(.ref de)]))) st3 ?_
  obtain ⟨T4, X4, e4, st4⟩ := getS2 X3 hx hZ hown (host := "") (Or.inl (hw _ (List.mem_of_getElem? (i := 47) rfl))) Via.refl e3 H4 (g := (mkF m 14 #[.val (.ref ar), .val (.int (1 : Int32)), .val (.int (0 : Int32)), .unset] [(.ref de)])) rfl (hb hby d14_14)
  refine Wp.back (U' := (T4.setTop (mkF m 17 #[.val (.ref ar), .val (.int (1 : Int32)), .val (.int (0 : Int32)), .unset] [(.ref de), (.ref de)]))) st4 ?_
  refine Wp.back (U' := (T4.setTop (mkF m 45 #[.val (.ref ar), .val (.int (1 : Int32)), .val (.int (0 : Int32)), .unset] []))) (fun t k => Jvm.RoadKit.acmp (g := (mkF m 17 #[.val (.ref ar), .val (.int (1 : Int32)), .val (.int (0 : Int32)), .unset] [(.ref de), (.ref de)])) X4 hx rfl rfl rfl (pc0 := 17) (pc' := 45) (same := true) rfl (hb hby d14_17) rfl (decide_eq_true rfl) (by decide) (by decide) k) ?_
  refine Wp.back (U' := (T4.setTop (mkF m 49 #[.val (.ref ar), .val (.int (1 : Int32)), .val (.int (0 : Int32)), .unset] [(.int (1 : Int32)), (.int (10 : Int32)), (.ref ar)]))) (fun t k => XS.aloadN X4.here hx rfl (hb hby d14_45) rfl rfl (XT.bipushV X4.here hx rfl (10 : Int32) (hb hby d14_46) (by decide) (XS.iloadN X4.here hx rfl (hb hby d14_48) rfl k))) ?_
  obtain ⟨_, _, ⟨T5, L5, k5, n5⟩, -, X5, ⟨Lc5, hQ5, l5, y5, z5⟩, st5⟩ := Jvm.LawKit.callS X4 hx (y := (⟨"java/lang/Math", "max", "(II)I"⟩ : MethodName)) hown (mvT hZ (hw _ (List.mem_of_getElem? (i := 92) rfl))) (mvT hZ (hw _ (List.mem_of_getElem? (i := 93) rfl))) (mvT hZ (hw _ (List.mem_of_getElem? (i := 94) rfl))) (mvT hZ (hw _ (List.mem_of_getElem? (i := 95) rfl))) (by decide) (backOf (W := 1) (rm_mx l Z a0 hw []   h0 n0 Z0 ) hZ (hw _ (List.mem_of_getElem? (i := 95) rfl)) (hw _ (List.mem_of_getElem? (i := 94) rfl)) (by decide) (by decide)) (g := (mkF m 49 #[.val (.ref ar), .val (.int (1 : Int32)), .val (.int (0 : Int32)), .unset] [(.int (1 : Int32)), (.int (10 : Int32)), (.ref ar)])) rfl (by rw [hml]; rfl) (argsL := [(.int (10 : Int32)), (.int (1 : Int32))]) (rest := [(.ref ar)]) (lenOf pd14_0 rfl) rfl (by show 2 * 0 + _ ≤ _; exact Nat.le_of_eq rfl) (hb hby d14_49) (fun _ _ => ⟨rfl, e4, (by decide : 0 + 0 ≤ _), (by decide : 0 + 0 ≤ _)⟩)
  dsimp only [Pt.U, Pt.locs, Pt.cells, Pt.slots] at X5 l5 y5 z5 st5 hQ5
  subst l5 y5 z5
  obtain ⟨rfl, N5q, K5⟩ := hQ5
  have f6_0 := Nat.le_trans Z0 K5.1
  have f6_1 := H0.keep K5
  have f6_2 := H1.keep K5 nin0
  have f6_3 := H2.keep K5 nin0
  have f6_4 := H3.keep K5 nin0
  have f6_5 := Sta_keep0 H4 K5
  have f6_6 := H5.keep K5 nin0
  have f6_7 := (Keep.refl h0 [ar]).trans K5 all0
  have N5 := Fr.app N0 N5q
  refine Wp.back (U' := (T5.setTop (mkF m 52 #[.val (.ref ar), .val (.int (1 : Int32)), .val (.int (0 : Int32)), .unset] [(.int (10 : Int32)), (.ref ar)]))) st5 ?_
  obtain ⟨T7, h7, k7, X7, e7, E7, A7, O7, st7⟩ := newR X5 hx hZ hown (hw _ (List.mem_of_getElem? (i := 96) rfl)) (hw _ (List.mem_of_getElem? (i := 97) rfl)) rfl (g := (mkF m 52 #[.val (.ref ar), .val (.int (1 : Int32)), .val (.int (0 : Int32)), .unset] [(.int (10 : Int32)), (.ref ar)])) rfl (hb hby d14_52) rfl (by decide) (cap := 10) (by decide) (by decide) (by decide) (by decide)
  obtain ⟨b7, g7⟩ : ∃ z, z = T5.heap.size := ⟨_, rfl⟩
  rw [← g7] at A7 st7
  have ne_ar_b7 : ar ≠ b7 := Nat.ne_of_lt (Nat.lt_of_lt_of_le f6_1.lt (Nat.le_of_eq g7.symm))
  have ne_de_b7 : de ≠ b7 := Nat.ne_of_lt (Nat.lt_of_lt_of_le f6_6.lt (Nat.le_of_eq g7.symm))
  have g_b7 : n0 ≤ b7 := Nat.le_trans f6_0 (Nat.le_of_eq g7.symm)
  have sz_b7 : h0.size ≤ b7 := Nat.le_trans f6_7.1 (Nat.le_of_eq g7.symm)
  have f8_0 := Nat.le_trans f6_0 E7.1
  have f8_1 := f6_1.ext E7
  have f8_2 := f6_2.ext E7
  have f8_3 := f6_3.ext E7
  have f8_4 := f6_4.ext E7
  have f8_5 := f6_5.ext E7
  have f8_6 := f6_6.ext E7
  have f8_7 := f6_7.ext E7
  have V7 : Arv Z h7 b7 k7 (.object "java/lang/Object") (10 : Int32) [.null, .null, .null, .null, .null, .null, .null, .null, .null, .null] .null := (Arv.new A7 (by decide)).pad (pad_rep [] .null 10)
  refine Wp.back (U' := (T7.setTop (mkF m 55 #[.val (.ref ar), .val (.int (1 : Int32)), .val (.int (0 : Int32)), .unset] [(.ref b7), (.ref ar)]))) st7 ?_
  refine Wp.back (U' := (T7.setTop (mkF m 56 #[.val (.ref ar), .val (.int (1 : Int32)), .val (.int (0 : Int32)), .unset] [(.ref b7), (.ref ar), (.ref b7)]))) (fun t k => XS.dupX1 X7.here hx rfl (hb hby d14_55) rfl rfl rfl k) ?_
  obtain ⟨T9, h9, X9, e9, W9, st9⟩ := putF X7 hx hZ hown (host := "") (Or.inl (hw _ (List.mem_of_getElem? (i := 48) rfl))) Via.refl e7 f8_2 f8_1 (Or.inl (hw _ (List.mem_of_getElem? (i := 49) rfl))) (hw _ (List.mem_of_getElem? (i := 27) rfl)) (ty := (.array (.object "java/lang/Object"))) (by decide) rfl rfl (g := (mkF m 56 #[.val (.ref ar), .val (.int (1 : Int32)), .val (.int (0 : Int32)), .unset] [(.ref b7), (.ref ar), (.ref b7)])) rfl rfl (hb hby d14_56)
  have Fw9 := f8_2.same W9
  have f10_0 := Nat.le_trans f8_0 (Keep.of_wr W9).1
  have f10_1 := f8_1.wr W9
  have f10_2 := f8_3.other W9 (Or.inr (slot_ne (Or.inl (hw _ (List.mem_of_getElem? (i := 76) rfl))) (Or.inl (hw _ (List.mem_of_getElem? (i := 49) rfl))) (by decide) (t := .int) (t' := (.array (.object "java/lang/Object"))) (by decide) (by decide)))
  have f10_3 := f8_4.other W9 (Or.inr (slot_ne (Or.inl (hw _ (List.mem_of_getElem? (i := 46) rfl))) (Or.inl (hw _ (List.mem_of_getElem? (i := 49) rfl))) (by decide) (t := .int) (t' := (.array (.object "java/lang/Object"))) (by decide) (by decide)))
  have f10_4 := f8_5.wr W9
  have f10_5 := f8_6.other W9 (Ne.symm ne_ar_de)
  have f10_6 := f8_7.wr W9 (Or.inl (List.mem_of_getElem? (i := 0) rfl))
  have f10_7 := V7.other W9 (Ne.symm ne_ar_b7)
  have N9 := Fr.snoc X9 N5 g_ar
  refine Wp.back (U' := (T9.setTop (mkF m 59 #[.val (.ref ar), .val (.int (1 : Int32)), .val (.int (0 : Int32)), .unset] [(.ref b7)]))) st9 ?_
  obtain ⟨fs, hr, hrun, hended, hW, hsame⟩ := X9.leave (v := (some (.ref b7))) (fun h => by rw [hret] at h; cases h)
  refine Wp.done (retOut X9 hx hret rfl (Or.inr (Or.inr (Or.inr (Or.inr ⟨rfl, rfl, rfl⟩)))) (hb hby d14_59) hr) hrun hended ⟨_, _, rfl, ?_, ⟨_, rfl⟩, hW, hsame.mono (by decide) (by decide)⟩
  show Q_g1 Z ar de ke h0 n0 _ T9.heap _
  rw [e9]
  exact ⟨b7, k7, rfl, N9, f10_6, sz_b7, f10_1, f10_3, f10_2, Fw9, f10_7, O7⟩
def Q_g0 (Z : State) (ar : Addr) (de : Addr) (ke : ClassId) (h0 : Heap) (n0 : Nat) (v : Option Value) (h : Heap) (L : List Loc) : Prop := ∃ fr0 : Addr, ∃ fk0 : ClassId, v = some (.ref fr0) ∧ Fr n0 L ∧ Keep h0 h [ar] ∧ h0.size ≤ fr0 ∧ Exa Z h ar "java/util/ArrayList" ∧ Fld Z h ar "java/util/AbstractList" "modCount" "I" (.int (1 : Int32)) ∧ Fld Z h ar "java/util/ArrayList" "size" "I" (.int (0 : Int32)) ∧ Fld Z h ar "java/util/ArrayList" "elementData" "[Ljava/lang/Object;" (.ref fr0) ∧ Arv Z h fr0 fk0 (.object "java/lang/Object") (10 : Int32) [.null, .null, .null, .null, .null, .null, .null, .null, .null, .null] .null ∧ Ovr Z fk0 "java/lang/Object"
theorem d13_0 : decode jdk_38_method_7_code 0 = .ok (.aload_n 0, 1) := by decide +kernel
theorem d13_1 : decode jdk_38_method_7_code 1 = .ok (.aload_n 0, 1) := by decide +kernel
theorem d13_2 : decode jdk_38_method_7_code 2 = .ok (.getfield 48, 3) := by decide +kernel
theorem d13_5 : decode jdk_38_method_7_code 5 = .ok (.iconst 1, 1) := by decide +kernel
theorem d13_6 : decode jdk_38_method_7_code 6 = .ok (.iadd, 1) := by decide +kernel
theorem d13_7 : decode jdk_38_method_7_code 7 = .ok (.invokevirtual 69, 3) := by decide +kernel
theorem d13_10 : decode jdk_38_method_7_code 10 = .ok (.areturn, 1) := by decide +kernel
theorem pd13_0 : parseMethodDescriptor "(I)[Ljava/lang/Object;" = some ⟨[.int], some (.array (.object "java/lang/Object"))⟩ := by decide +kernel
theorem pn13 : plainName "java/util/ArrayList" = true := by first | (simp [plainName, overriddenIn]; done) | decide +kernel
theorem ef13 (m : MethodId) (x0 : Addr) : entryFrame m #[(.ref x0)] 1 = mkF m 0 #[.val (.ref x0)] [] := by first | (simp [entryFrame, mkF, argsToLocals, Value.category]; done) | rfl
set_option maxRecDepth 65536 in
set_option maxHeartbeats 40000000 in
theorem rm_g0 (l : Launch) (Z : State) (a0 : Array Value) (hw : ∀ d ∈ tables_1, d.before a0 Z = true) (ws : List Jvm.Cond) (ar : Addr) (de : Addr) (ke : ClassId) (h0 : Heap) (n0 : Nat) (Z0 : n0 ≤ h0.size) (H0 : Exa Z h0 ar "java/util/ArrayList") (H1 : Fld Z h0 ar "java/util/ArrayList" "elementData" "[Ljava/lang/Object;" (.ref de)) (H2 : Fld Z h0 ar "java/util/ArrayList" "size" "I" (.int (0 : Int32))) (H3 : Fld Z h0 ar "java/util/AbstractList" "modCount" "I" (.int (1 : Int32))) (H4 : Sta Z h0 "java/util/ArrayList" "DEFAULTCAPACITY_EMPTY_ELEMENTDATA" "[Ljava/lang/Object;" (.ref de)) (H5 : Arv Z h0 de ke (.object "java/lang/Object") (0 : Int32) [] .null) (g_ar : n0 ≤ ar) (ne_ar_de : ar ≠ de) :
    MetFree l (⟨"java/util/ArrayList", "grow", "()[Ljava/lang/Object;"⟩ : MethodName) (head1 (Jvm.Cond.code (⟨"java/util/ArrayList", "grow", "()[Ljava/lang/Object;"⟩ : MethodName) jdk_38_method_7_code 1 (some (.array (.object "java/lang/Object"))) :: ws) ({ frames := 2, cells := 1, slots := 10, locals := 29 } : Room)) (fun a U => a = #[(.ref ar)] ∧ Z.Warmed39 U.vm ∧ U.heap = h0) (fun _ _ _ _ _ => True) (fun _ U o U' => ∃ v L, o = .returned v ∧ Q_g0 Z ar de ke h0 n0 v U'.heap L ∧ FrameEnd U o U' L ({ frames := 2, cells := 1, slots := 10, locals := 29 } : Room).cells ({ frames := 2, cells := 1, slots := 10, locals := 29 } : Room).slots) := by
  refine MetFree.of_bodySF (plainFor_of_name pn13) hisR ?_
  intro p e s m args below meth c s₁ Bd hml0 hP hK
  obtain ⟨rfl, hZ, hh⟩ := hP
  have hx := Bd.exec
  have hby := Bd.bytes
  have hret := Bd.returns
  have hlk := Bd.notSynchronized
  have hml : c.maxLocals = 1 := hml0
  have hown : s.vm.findClass "java/util/ArrayList" = some m.cls := findClass_of_methodNamed Bd.named
  have hnm := (name_of_methodNamed Bd.named Bd.method).1
  have X0 : Stand p l e ({ frames := 2, cells := 1, slots := 10, locals := 29 } : Room) s m #[(.ref ar)] below meth c s₁ [] 0 0 := Stand.of_body Bd
  have e0 : s₁.heap = h0 := by rw [← hh, Bd.state]; rfl
  have N0 := Fr.nil n0
  show Wp p e below (fun o s₂ => ∃ v L, o = .returned v ∧ Q_g0 Z ar de ke h0 n0 v s₂.heap L ∧ FrameEnd s o s₂ L ({ frames := 2, cells := 1, slots := 10, locals := 29 } : Room).cells ({ frames := 2, cells := 1, slots := 10, locals := 29 } : Room).slots) _
  refine Wp.back (U' := (s₁.setTop (mkF m 0 #[.val (.ref ar)] []))) (fun t k => castTop (ef13 m ar) k) ?_
  refine Wp.back (U' := (s₁.setTop (mkF m 2 #[.val (.ref ar)] [(.ref ar), (.ref ar)]))) (fun t k => XS.aloadN X0.here hx rfl (hb hby d13_0) rfl rfl (XS.aloadN X0.here hx rfl (hb hby d13_1) rfl rfl k)) ?_
  obtain ⟨T1, X1, e1, st1⟩ := getF X0 hx hZ hown (host := "") (Or.inl (hw _ (List.mem_of_getElem? (i := 75) rfl))) Via.refl e0 H2 (g := (mkF m 2 #[.val (.ref ar)] [(.ref ar), (.ref ar)])) rfl rfl (hb hby d13_2)
  refine Wp.back (U' := (T1.setTop (mkF m 5 #[.val (.ref ar)] [(.int (0 : Int32)), (.ref ar)]))) st1 ?_
  refine Wp.back (U' := (T1.setTop (mkF m 7 #[.val (.ref ar)] [(.int (1 : Int32)), (.ref ar)]))) (fun t k => XT.iconstV X1.here hx rfl (1 : Int32) (hb hby d13_5) (by decide) (XS.iadd X1.here hx rfl (hb hby d13_6) rfl k)) ?_
  obtain ⟨cq2, q2, q2'⟩ := H0.cell
  obtain ⟨_, _, ⟨T2, L2, k2, n2⟩, -, X2, ⟨Lc2, hQ2, l2, y2, z2⟩, st2⟩ := X1.privateBack hx (y := (⟨"java/util/ArrayList", "grow", "(I)[Ljava/lang/Object;"⟩ : MethodName)) hown (mvT hZ (hw _ (List.mem_of_getElem? (i := 87) rfl))) (mvT hZ (hw _ (List.mem_of_getElem? (i := 88) rfl))) (mvT hZ (hw _ (List.mem_of_getElem? (i := 90) rfl))) (Cond.privateMethod_at (mvP hZ (hw _ (List.mem_of_getElem? (i := 89) rfl)) (args := #[]))) (mvT hZ (hw _ (List.mem_of_getElem? (i := 91) rfl))) (by decide) (backOf (W := 0) (rm_g1 l Z a0 hw [] ar de ke h0 n0 Z0 H0 H1 H2 H3 H4 H5 g_ar ne_ar_de) hZ (hw _ (List.mem_of_getElem? (i := 91) rfl)) (hw _ (List.mem_of_getElem? (i := 28) rfl)) (by decide) (by decide)) (g := (mkF m 7 #[.val (.ref ar)] [(.int (1 : Int32)), (.ref ar)])) rfl (by rw [hml]; rfl) (Steps.refl _) (a := ar) (by rw [e1]; exact q2) q2' (argsL := [(.int (1 : Int32))]) (rest := []) (lenOf pd13_0 rfl) rfl (by show 2 * 0 + _ ≤ _; exact Nat.le_of_eq rfl) (hb hby d13_7) (fun _ _ => ⟨rfl, e1, (by decide : 0 + 1 ≤ _), (by decide : 0 + 10 ≤ _)⟩)
  dsimp only [Pt.U, Pt.locs, Pt.cells, Pt.slots] at X2 l2 y2 z2 st2 hQ2
  subst l2 y2 z2
  obtain ⟨b2_0, k2_0, rfl, N2q, K2, sf2_0, o2_0, o2_1, o2_2, o2_3, o2_4, o2_5⟩ := hQ2
  have ne_ar_b2_0 : ar ≠ b2_0 := Nat.ne_of_lt (Nat.lt_of_lt_of_le H0.lt sf2_0)
  have ne_de_b2_0 : de ≠ b2_0 := Nat.ne_of_lt (Nat.lt_of_lt_of_le H5.lt sf2_0)
  have g_b2_0 : n0 ≤ b2_0 := Nat.le_trans Z0 sf2_0
  have sz_b2_0 : h0.size ≤ b2_0 := Nat.le_trans (Keep.refl h0 [ar]).1 sf2_0
  have f3_0 := Nat.le_trans Z0 K2.1
  have f3_1 := H0.keep K2
  have f3_5 := Sta_keep H4 K2 (allS (Exa_ns H0) all0)
  have f3_6 := H5.keep K2 (ninS (Ne.symm ne_ar_de) nin0)
  have f3_7 := (Keep.refl h0 [ar]).trans K2 (allS (Or.inl (List.mem_of_getElem? (i := 0) rfl)) all0)
  have N2 := Fr.app N0 N2q
  refine Wp.back (U' := (T2.setTop (mkF m 10 #[.val (.ref ar)] [(.ref b2_0)]))) (fun t k => st2.trans k) ?_
  obtain ⟨fs, hr, hrun, hended, hW, hsame⟩ := X2.leave (v := (some (.ref b2_0))) (fun h => by rw [hret] at h; cases h)
  refine Wp.done (retOut X2 hx hret rfl (Or.inr (Or.inr (Or.inr (Or.inr ⟨rfl, rfl, rfl⟩)))) (hb hby d13_10) hr) hrun hended ⟨_, _, rfl, ?_, ⟨_, rfl⟩, hW, hsame.mono (by decide) (by decide)⟩
  show Q_g0 Z ar de ke h0 n0 _ T2.heap _
  exact ⟨b2_0, k2_0, rfl, N2, f3_7, sz_b2_0, o2_0, o2_1, o2_2, o2_3, o2_4, o2_5⟩
def Q_at0 (Z : State) (ar : Addr) (el : Addr) (de : Addr) (ke : ClassId) (h0 : Heap) (n0 : Nat) (v : Option Value) (h : Heap) (L : List Loc) : Prop := ∃ fr0 : Addr, ∃ fk0 : ClassId, v = none ∧ Fr n0 L ∧ Keep h0 h [ar] ∧ h0.size ≤ fr0 ∧ Exa Z h ar "java/util/ArrayList" ∧ Fld Z h ar "java/util/AbstractList" "modCount" "I" (.int (1 : Int32)) ∧ Fld Z h ar "java/util/ArrayList" "elementData" "[Ljava/lang/Object;" (.ref fr0) ∧ Fld Z h ar "java/util/ArrayList" "size" "I" (.int (1 : Int32)) ∧ Arv Z h fr0 fk0 (.object "java/lang/Object") (10 : Int32) [(.ref el), .null, .null, .null, .null, .null, .null, .null, .null, .null] .null ∧ Ovr Z fk0 "java/lang/Object"
theorem i0d12_0 : decode jdk_38_method_24_code 0 = .ok (.iload_n 3, 1) := by decide +kernel
theorem i0d12_1 : decode jdk_38_method_24_code 1 = .ok (.aload_n 2, 1) := by decide +kernel
theorem i0d12_2 : decode jdk_38_method_24_code 2 = .ok (.arraylength, 1) := by decide +kernel
theorem i0d12_3 : decode jdk_38_method_24_code 3 = .ok (.if_icmp .ne 8, 3) := by decide +kernel
theorem i0d12_6 : decode jdk_38_method_24_code 6 = .ok (.aload_n 0, 1) := by decide +kernel
theorem i0d12_7 : decode jdk_38_method_24_code 7 = .ok (.invokevirtual 129, 3) := by decide +kernel
theorem i0d12_10 : decode jdk_38_method_24_code 10 = .ok (.astore_n 2, 1) := by decide +kernel
theorem i0d12_11 : decode jdk_38_method_24_code 11 = .ok (.aload_n 2, 1) := by decide +kernel
theorem i0d12_12 : decode jdk_38_method_24_code 12 = .ok (.iload_n 3, 1) := by decide +kernel
theorem i0d12_13 : decode jdk_38_method_24_code 13 = .ok (.aload_n 1, 1) := by decide +kernel
theorem i0d12_14 : decode jdk_38_method_24_code 14 = .ok (.aastore, 1) := by decide +kernel
theorem i0d12_15 : decode jdk_38_method_24_code 15 = .ok (.aload_n 0, 1) := by decide +kernel
theorem i0d12_16 : decode jdk_38_method_24_code 16 = .ok (.iload_n 3, 1) := by decide +kernel
theorem i0d12_17 : decode jdk_38_method_24_code 17 = .ok (.iconst 1, 1) := by decide +kernel
theorem i0d12_18 : decode jdk_38_method_24_code 18 = .ok (.iadd, 1) := by decide +kernel
theorem i0d12_19 : decode jdk_38_method_24_code 19 = .ok (.putfield 48, 3) := by decide +kernel
theorem i0d12_22 : decode jdk_38_method_24_code 22 = .ok (.return_, 1) := by decide +kernel
theorem i0pd12_0 : parseMethodDescriptor "()[Ljava/lang/Object;" = some ⟨[], some (.array (.object "java/lang/Object"))⟩ := by decide +kernel
theorem i0pn12 : plainName "java/util/ArrayList" = true := by first | (simp [plainName, overriddenIn]; done) | decide +kernel
theorem i0ef12 (m : MethodId) (x0 : Addr) (x1 : Addr) (x2 : Addr) (x3 : Int32) : entryFrame m #[(.ref x0), (.ref x1), (.ref x2), (.int x3)] 4 = mkF m 0 #[.val (.ref x0), .val (.ref x1), .val (.ref x2), .val (.int x3)] [] := by first | (simp [entryFrame, mkF, argsToLocals, Value.category]; done) | rfl
set_option maxRecDepth 65536 in
set_option maxHeartbeats 40000000 in
theorem rm_at0 (l : Launch) (Z : State) (a0 : Array Value) (hw : ∀ d ∈ tables_1, d.before a0 Z = true) (ws : List Jvm.Cond) (ar : Addr) (el : Addr) (de : Addr) (ke : ClassId) (h0 : Heap) (n0 : Nat) (Z0 : n0 ≤ h0.size) (H0 : Exa Z h0 ar "java/util/ArrayList") (H1 : Exa Z h0 el "com/example/treewright/treewright/schema/AugmentTarget$Step") (H2 : Fld Z h0 ar "java/util/ArrayList" "elementData" "[Ljava/lang/Object;" (.ref de)) (H3 : Fld Z h0 ar "java/util/ArrayList" "size" "I" (.int (0 : Int32))) (H4 : Sta Z h0 "java/util/ArrayList" "DEFAULTCAPACITY_EMPTY_ELEMENTDATA" "[Ljava/lang/Object;" (.ref de)) (H5 : Arv Z h0 de ke (.object "java/lang/Object") (0 : Int32) [] .null) (H6 : Fld Z h0 ar "java/util/AbstractList" "modCount" "I" (.int (1 : Int32))) (g_ar : n0 ≤ ar) (ne_el_ar : el ≠ ar) (ne_ar_de : ar ≠ de) :
    MetFree l (⟨"java/util/ArrayList", "add", "(Ljava/lang/Object;[Ljava/lang/Object;I)V"⟩ : MethodName) (head1 (Jvm.Cond.code (⟨"java/util/ArrayList", "add", "(Ljava/lang/Object;[Ljava/lang/Object;I)V"⟩ : MethodName) jdk_38_method_24_code 4 none :: ws) ({ frames := 3, cells := 1, slots := 10, locals := 41 } : Room)) (fun a U => a = #[(.ref ar), (.ref el), (.ref de), (.int (0 : Int32))] ∧ Z.Warmed39 U.vm ∧ U.heap = h0) (fun _ _ _ _ _ => True) (fun _ U o U' => ∃ v L, o = .returned v ∧ Q_at0 Z ar el de ke h0 n0 v U'.heap L ∧ FrameEnd U o U' L ({ frames := 3, cells := 1, slots := 10, locals := 41 } : Room).cells ({ frames := 3, cells := 1, slots := 10, locals := 41 } : Room).slots) := by
  refine MetFree.of_bodySF (plainFor_of_name i0pn12) hisR ?_
  intro p e s m args below meth c s₁ Bd hml0 hP hK
  obtain ⟨rfl, hZ, hh⟩ := hP
  have hx := Bd.exec
  have hby := Bd.bytes
  have hret := Bd.returns
  have hlk := Bd.notSynchronized
  have hml : c.maxLocals = 4 := hml0
  have hown : s.vm.findClass "java/util/ArrayList" = some m.cls := findClass_of_methodNamed Bd.named
  have hnm := (name_of_methodNamed Bd.named Bd.method).1
  have X0 : Stand p l e ({ frames := 3, cells := 1, slots := 10, locals := 41 } : Room) s m #[(.ref ar), (.ref el), (.ref de), (.int (0 : Int32))] below meth c s₁ [] 0 0 := Stand.of_body Bd
  have e0 : s₁.heap = h0 := by rw [← hh, Bd.state]; rfl
  have N0 := Fr.nil n0
  show Wp p e below (fun o s₂ => ∃ v L, o = .returned v ∧ Q_at0 Z ar el de ke h0 n0 v s₂.heap L ∧ FrameEnd s o s₂ L ({ frames := 3, cells := 1, slots := 10, locals := 41 } : Room).cells ({ frames := 3, cells := 1, slots := 10, locals := 41 } : Room).slots) _
  refine Wp.back (U' := (s₁.setTop (mkF m 0 #[.val (.ref ar), .val (.ref el), .val (.ref de), .val (.int (0 : Int32))] []))) (fun t k => castTop (i0ef12 m ar el de (0 : Int32)) k) ?_
  refine Wp.back (U' := (s₁.setTop (mkF m 2 #[.val (.ref ar), .val (.ref el), .val (.ref de), .val (.int (0 : Int32))] [(.ref de), (.int (0 : Int32))]))) (fun t k => XS.iloadN X0.here hx rfl (hb hby i0d12_0) rfl (XS.aloadN X0.here hx rfl (hb hby i0d12_1) rfl rfl k)) ?_
  have vq1 := H5
  obtain ⟨cl1, Ar1, -, qs1, qn1, -, -⟩ := vq1
  refine Wp.back (U' := (s₁.setTop (mkF m 3 #[.val (.ref ar), .val (.ref el), .val (.ref de), .val (.int (0 : Int32))] [(.int (0 : Int32)), (.int (0 : Int32))]))) (fun t k => X0.arraylength hx (by rw [e0]; exact Ar1.1) (State.isArrayOf_alike hZ.alike Ar1.2.1) (g := (mkF m 2 #[.val (.ref ar), .val (.ref el), .val (.ref de), .val (.int (0 : Int32))] [(.ref de), (.int (0 : Int32))])) rfl rfl (hb hby i0d12_2) t (by rw [len_of qs1 qn1]; exact k)) ?_
  refine Wp.back (U' := (s₁.setTop (mkF m 7 #[.val (.ref ar), .val (.ref el), .val (.ref de), .val (.int (0 : Int32))] [(.ref ar)]))) (fun t k => XS.icmpNo X0.here hx rfl (hb hby i0d12_3) rfl (teq (by decide)).2 (XS.aloadN X0.here hx rfl (hb hby i0d12_6) rfl rfl k)) ?_
  obtain ⟨cq2, q2, q2'⟩ := H0.cell
  obtain ⟨_, _, ⟨T2, L2, k2, n2⟩, -, X2, ⟨Lc2, hQ2, l2, y2, z2⟩, st2⟩ := X0.privateBack hx (y := (⟨"java/util/ArrayList", "grow", "()[Ljava/lang/Object;"⟩ : MethodName)) hown (mvT hZ (hw _ (List.mem_of_getElem? (i := 82) rfl))) (mvT hZ (hw _ (List.mem_of_getElem? (i := 83) rfl))) (mvT hZ (hw _ (List.mem_of_getElem? (i := 85) rfl))) (Cond.privateMethod_at (mvP hZ (hw _ (List.mem_of_getElem? (i := 84) rfl)) (args := #[]))) (mvT hZ (hw _ (List.mem_of_getElem? (i := 86) rfl))) (by decide) (backOf (W := 0) (rm_g0 l Z a0 hw [] ar de ke h0 n0 Z0 H0 H2 H3 H6 H4 H5 g_ar ne_ar_de) hZ (hw _ (List.mem_of_getElem? (i := 86) rfl)) (hw _ (List.mem_of_getElem? (i := 28) rfl)) (by decide) (by decide)) (g := (mkF m 7 #[.val (.ref ar), .val (.ref el), .val (.ref de), .val (.int (0 : Int32))] [(.ref ar)])) rfl (by rw [hml]; rfl) (Steps.refl _) (a := ar) (by rw [e0]; exact q2) q2' (argsL := []) (rest := []) (lenOf i0pd12_0 rfl) rfl (by show 2 * 0 + _ ≤ _; exact Nat.le_of_eq rfl) (hb hby i0d12_7) (fun _ _ => ⟨rfl, e0, (by decide : 0 + 1 ≤ _), (by decide : 0 + 10 ≤ _)⟩)
  dsimp only [Pt.U, Pt.locs, Pt.cells, Pt.slots] at X2 l2 y2 z2 st2 hQ2
  subst l2 y2 z2
  obtain ⟨b2_0, k2_0, rfl, N2q, K2, sf2_0, o2_0, o2_1, o2_2, o2_3, o2_4, o2_5⟩ := hQ2
  have ne_ar_b2_0 : ar ≠ b2_0 := Nat.ne_of_lt (Nat.lt_of_lt_of_le H0.lt sf2_0)
  have ne_el_b2_0 : el ≠ b2_0 := Nat.ne_of_lt (Nat.lt_of_lt_of_le H1.lt sf2_0)
  have ne_de_b2_0 : de ≠ b2_0 := Nat.ne_of_lt (Nat.lt_of_lt_of_le H5.lt sf2_0)
  have g_b2_0 : n0 ≤ b2_0 := Nat.le_trans Z0 sf2_0
  have sz_b2_0 : h0.size ≤ b2_0 := Nat.le_trans (Keep.refl h0 [ar]).1 sf2_0
  have f3_0 := Nat.le_trans Z0 K2.1
  have f3_1 := H0.keep K2
  have f3_2 := H1.keep K2
  have f3_5 := Sta_keep H4 K2 (allS (Exa_ns H0) all0)
  have f3_6 := H5.keep K2 (ninS (Ne.symm ne_ar_de) nin0)
  have f3_8 := (Keep.refl h0 [ar]).trans K2 (allS (Or.inl (List.mem_of_getElem? (i := 0) rfl)) all0)
  have N2 := Fr.app N0 N2q
  refine Wp.back (U' := (T2.setTop (mkF m 10 #[.val (.ref ar), .val (.ref el), .val (.ref de), .val (.int (0 : Int32))] [(.ref b2_0)]))) (fun t k => st2.trans k) ?_
  refine Wp.back (U' := (T2.setTop (mkF m 14 #[.val (.ref ar), .val (.ref el), .val (.ref b2_0), .val (.int (0 : Int32))] [(.ref el), (.int (0 : Int32)), (.ref b2_0)]))) (fun t k => XS.astoreN X2.here hx rfl (hb hby i0d12_10) rfl rfl (l' := #[.val (.ref ar), .val (.ref el), .val (.ref b2_0), .val (.int (0 : Int32))]) rfl (XS.aloadN X2.here hx rfl (hb hby i0d12_11) rfl rfl (XS.iloadN X2.here hx rfl (hb hby i0d12_12) rfl (XS.aloadN X2.here hx rfl (hb hby i0d12_13) rfl rfl k)))) ?_
  have vq4 := o2_4
  obtain ⟨cl4, Ar4, qa4, qs4, qn4, qh4, qg4⟩ := vq4
  have hin4 : ¬ ((0 : Int32) < 0 ∨ cl4.slots.size ≤ ((0 : Int32)).toNatClampNeg) := inb_of qs4 ⟨by decide, by decide⟩
  obtain ⟨T4, h4, X4, e4, W4, st4⟩ := stR X2 hx hZ rfl Ar4 (j := (0 : Int32)) hin4 rfl (Sto.ofV Ar4 qa4 o2_5 (Ins.of_exa f3_2 (hw _ (List.mem_of_getElem? (i := 98) rfl)))) (g := (mkF m 14 #[.val (.ref ar), .val (.ref el), .val (.ref b2_0), .val (.int (0 : Int32))] [(.ref el), (.int (0 : Int32)), (.ref b2_0)])) rfl rfl (hb hby i0d12_14)
  have V4 : Arv Z h4 b2_0 k2_0 (.object "java/lang/Object") (10 : Int32) [(.ref el), .null, .null, .null, .null, .null, .null, .null, .null, .null] .null := Arv.set Ar4 qa4 qs4 qn4 qh4 qg4 rfl W4 0 rfl (Nat.le_of_ble_eq_true rfl)
  have f5_0 := Nat.le_trans f3_0 (Keep.of_wr W4).1
  have f5_1 := o2_0.wr W4
  have f5_2 := f3_2.wr W4
  have f5_3 := f3_5.wr W4
  have f5_4 := f3_6.other W4 ne_de_b2_0
  have f5_5 := f3_8.wr W4 (Or.inr sz_b2_0)
  have f5_6 := o2_1.other W4 (Or.inl ne_ar_b2_0)
  have f5_7 := o2_2.other W4 (Or.inl ne_ar_b2_0)
  have f5_8 := o2_3.other W4 (Or.inl ne_ar_b2_0)
  have N4 := Fr.snoc X4 N2 g_b2_0
  refine Wp.back (U' := (T4.setTop (mkF m 15 #[.val (.ref ar), .val (.ref el), .val (.ref b2_0), .val (.int (0 : Int32))] []))) st4 ?_
  refine Wp.back (U' := (T4.setTop (mkF m 19 #[.val (.ref ar), .val (.ref el), .val (.ref b2_0), .val (.int (0 : Int32))] [(.int (1 : Int32)), (.ref ar)]))) (fun t k => XS.aloadN X4.here hx rfl (hb hby i0d12_15) rfl rfl (XS.iloadN X4.here hx rfl (hb hby i0d12_16) rfl (XT.iconstV X4.here hx rfl (1 : Int32) (hb hby i0d12_17) (by decide) (XS.iadd X4.here hx rfl (hb hby i0d12_18) rfl k)))) ?_
  obtain ⟨T6, h6, X6, e6, W6, st6⟩ := putF X4 hx hZ hown (host := "") (Or.inl (hw _ (List.mem_of_getElem? (i := 75) rfl))) Via.refl e4 f5_7 f5_1 (Or.inl (hw _ (List.mem_of_getElem? (i := 76) rfl))) (hw _ (List.mem_of_getElem? (i := 27) rfl)) (ty := .int) (by decide) rfl rfl (g := (mkF m 19 #[.val (.ref ar), .val (.ref el), .val (.ref b2_0), .val (.int (0 : Int32))] [(.int (1 : Int32)), (.ref ar)])) rfl rfl (hb hby i0d12_19)
  have Fw6 := f5_7.same W6
  have f7_0 := Nat.le_trans f5_0 (Keep.of_wr W6).1
  have f7_1 := f5_1.wr W6
  have f7_2 := f5_2.wr W6
  have f7_3 := f5_3.wr W6
  have f7_4 := f5_4.other W6 (Ne.symm ne_ar_de)
  have f7_5 := f5_5.wr W6 (Or.inl (List.mem_of_getElem? (i := 0) rfl))
  have f7_6 := f5_6.other W6 (Or.inr (slot_ne (Or.inl (hw _ (List.mem_of_getElem? (i := 46) rfl))) (Or.inl (hw _ (List.mem_of_getElem? (i := 76) rfl))) (by decide) (t := .int) (t' := .int) (by decide) (by decide)))
  have f7_7 := f5_8.other W6 (Or.inr (slot_ne (Or.inl (hw _ (List.mem_of_getElem? (i := 49) rfl))) (Or.inl (hw _ (List.mem_of_getElem? (i := 76) rfl))) (by decide) (t := (.array (.object "java/lang/Object"))) (t' := .int) (by decide) (by decide)))
  have f7_9 := V4.other W6 (Ne.symm ne_ar_b2_0)
  have N6 := Fr.snoc X6 N4 g_ar
  refine Wp.back (U' := (T6.setTop (mkF m 22 #[.val (.ref ar), .val (.ref el), .val (.ref b2_0), .val (.int (0 : Int32))] []))) st6 ?_
  obtain ⟨fs, hr, hrun, hended, hW, hsame⟩ := X6.leave (v := none) (fun _ => rfl)
  refine Wp.done (X6.returnOut hx hret (hb hby i0d12_22) hr) hrun hended ⟨_, _, rfl, ?_, ⟨_, rfl⟩, hW, hsame.mono (by decide) (by decide)⟩
  show Q_at0 Z ar el de ke h0 n0 _ T6.heap _
  rw [e6]
  exact ⟨b2_0, k2_0, rfl, N6, f7_5, sz_b2_0, f7_1, f7_6, f7_7, Fw6, f7_9, o2_5⟩
def Q_ad0 (Z : State) (ar : Addr) (el : Addr) (de : Addr) (ke : ClassId) (h0 : Heap) (n0 : Nat) (v : Option Value) (h : Heap) (L : List Loc) : Prop := ∃ fr0 : Addr, ∃ fk0 : ClassId, v = some (.int (1 : Int32)) ∧ Fr n0 L ∧ Keep h0 h [ar] ∧ h0.size ≤ fr0 ∧ Exa Z h ar "java/util/ArrayList" ∧ Fld Z h ar "java/util/AbstractList" "modCount" "I" (.int (1 : Int32)) ∧ Fld Z h ar "java/util/ArrayList" "elementData" "[Ljava/lang/Object;" (.ref fr0) ∧ Fld Z h ar "java/util/ArrayList" "size" "I" (.int (1 : Int32)) ∧ Arv Z h fr0 fk0 (.object "java/lang/Object") (10 : Int32) [(.ref el), .null, .null, .null, .null, .null, .null, .null, .null, .null] .null ∧ Ovr Z fk0 "java/lang/Object"
theorem i0d11_0 : decode jdk_38_method_25_code 0 = .ok (.aload_n 0, 1) := by decide +kernel
theorem i0d11_1 : decode jdk_38_method_25_code 1 = .ok (.dup, 1) := by decide +kernel
theorem i0d11_2 : decode jdk_38_method_25_code 2 = .ok (.getfield 63, 3) := by decide +kernel
theorem i0d11_5 : decode jdk_38_method_25_code 5 = .ok (.iconst 1, 1) := by decide +kernel
theorem i0d11_6 : decode jdk_38_method_25_code 6 = .ok (.iadd, 1) := by decide +kernel
theorem i0d11_7 : decode jdk_38_method_25_code 7 = .ok (.putfield 63, 3) := by decide +kernel
theorem i0d11_10 : decode jdk_38_method_25_code 10 = .ok (.aload_n 0, 1) := by decide +kernel
theorem i0d11_11 : decode jdk_38_method_25_code 11 = .ok (.aload_n 1, 1) := by decide +kernel
theorem i0d11_12 : decode jdk_38_method_25_code 12 = .ok (.aload_n 0, 1) := by decide +kernel
theorem i0d11_13 : decode jdk_38_method_25_code 13 = .ok (.getfield 9, 3) := by decide +kernel
theorem i0d11_16 : decode jdk_38_method_25_code 16 = .ok (.aload_n 0, 1) := by decide +kernel
theorem i0d11_17 : decode jdk_38_method_25_code 17 = .ok (.getfield 48, 3) := by decide +kernel
theorem i0d11_20 : decode jdk_38_method_25_code 20 = .ok (.invokevirtual 131, 3) := by decide +kernel
theorem i0d11_23 : decode jdk_38_method_25_code 23 = .ok (.iconst 1, 1) := by decide +kernel
theorem i0d11_24 : decode jdk_38_method_25_code 24 = .ok (.ireturn, 1) := by decide +kernel
theorem i0pd11_0 : parseMethodDescriptor "(Ljava/lang/Object;[Ljava/lang/Object;I)V" = some ⟨[(.object "java/lang/Object"), (.array (.object "java/lang/Object")), .int], none⟩ := by decide +kernel
theorem i0pn11 : plainName "java/util/ArrayList" = true := by first | (simp [plainName, overriddenIn]; done) | decide +kernel
theorem i0ef11 (m : MethodId) (x0 : Addr) (x1 : Addr) : entryFrame m #[(.ref x0), (.ref x1)] 2 = mkF m 0 #[.val (.ref x0), .val (.ref x1)] [] := by first | (simp [entryFrame, mkF, argsToLocals, Value.category]; done) | rfl
set_option maxRecDepth 65536 in
set_option maxHeartbeats 40000000 in
theorem rm_ad0 (l : Launch) (Z : State) (a0 : Array Value) (hw : ∀ d ∈ tables_1, d.before a0 Z = true) (ws : List Jvm.Cond) (ar : Addr) (el : Addr) (de : Addr) (ke : ClassId) (h0 : Heap) (n0 : Nat) (Z0 : n0 ≤ h0.size) (H0 : Exa Z h0 ar "java/util/ArrayList") (H1 : Exa Z h0 el "com/example/treewright/treewright/schema/AugmentTarget$Step") (H2 : Fld Z h0 ar "java/util/ArrayList" "elementData" "[Ljava/lang/Object;" (.ref de)) (H3 : Fld Z h0 ar "java/util/ArrayList" "size" "I" (.int (0 : Int32))) (H4 : Sta Z h0 "java/util/ArrayList" "DEFAULTCAPACITY_EMPTY_ELEMENTDATA" "[Ljava/lang/Object;" (.ref de)) (H5 : Arv Z h0 de ke (.object "java/lang/Object") (0 : Int32) [] .null) (H6 : Fld Z h0 ar "java/util/AbstractList" "modCount" "I" (.int (0 : Int32))) (g_ar : n0 ≤ ar) (ne_el_ar : el ≠ ar) (ne_ar_de : ar ≠ de) :
    MetFree l (⟨"java/util/ArrayList", "add", "(Ljava/lang/Object;)Z"⟩ : MethodName) (head1 (Jvm.Cond.code (⟨"java/util/ArrayList", "add", "(Ljava/lang/Object;)Z"⟩ : MethodName) jdk_38_method_25_code 2 (some .boolean) :: ws) ({ frames := 4, cells := 1, slots := 10, locals := 56 } : Room)) (fun a U => a = #[(.ref ar), (.ref el)] ∧ Z.Warmed39 U.vm ∧ U.heap = h0) (fun _ _ _ _ _ => True) (fun _ U o U' => ∃ v L, o = .returned v ∧ Q_ad0 Z ar el de ke h0 n0 v U'.heap L ∧ FrameEnd U o U' L ({ frames := 4, cells := 1, slots := 10, locals := 56 } : Room).cells ({ frames := 4, cells := 1, slots := 10, locals := 56 } : Room).slots) := by
  refine MetFree.of_bodySF (plainFor_of_name i0pn11) hisR ?_
  intro p e s m args below meth c s₁ Bd hml0 hP hK
  obtain ⟨rfl, hZ, hh⟩ := hP
  have hx := Bd.exec
  have hby := Bd.bytes
  have hret := Bd.returns
  have hlk := Bd.notSynchronized
  have hml : c.maxLocals = 2 := hml0
  have hown : s.vm.findClass "java/util/ArrayList" = some m.cls := findClass_of_methodNamed Bd.named
  have hnm := (name_of_methodNamed Bd.named Bd.method).1
  have X0 : Stand p l e ({ frames := 4, cells := 1, slots := 10, locals := 56 } : Room) s m #[(.ref ar), (.ref el)] below meth c s₁ [] 0 0 := Stand.of_body Bd
  have e0 : s₁.heap = h0 := by rw [← hh, Bd.state]; rfl
  have N0 := Fr.nil n0
  show Wp p e below (fun o s₂ => ∃ v L, o = .returned v ∧ Q_ad0 Z ar el de ke h0 n0 v s₂.heap L ∧ FrameEnd s o s₂ L ({ frames := 4, cells := 1, slots := 10, locals := 56 } : Room).cells ({ frames := 4, cells := 1, slots := 10, locals := 56 } : Room).slots) _
  refine Wp.back (U' := (s₁.setTop (mkF m 0 #[.val (.ref ar), .val (.ref el)] []))) (fun t k => castTop (i0ef11 m ar el) k) ?_
  refine Wp.back (U' := (s₁.setTop (mkF m 2 #[.val (.ref ar), .val (.ref el)] [(.ref ar), (.ref ar)]))) (fun t k => XS.aloadN X0.here hx rfl (hb hby i0d11_0) rfl rfl (XS.dup X0.here hx rfl (hb hby i0d11_1) rfl rfl k)) ?_
  obtain ⟨T1, X1, e1, st1⟩ := getF X0 hx hZ hown (host := "") (Or.inl (hw _ (List.mem_of_getElem? (i := 73) rfl))) (Via.of (hw _ (List.mem_of_getElem? (i := 74) rfl))) e0 H6 (g := (mkF m 2 #[.val (.ref ar), .val (.ref el)] [(.ref ar), (.ref ar)])) rfl rfl (hb hby i0d11_2)
  refine Wp.back (U' := (T1.setTop (mkF m 5 #[.val (.ref ar), .val (.ref el)] [(.int (0 : Int32)), (.ref ar)]))) st1 ?_
  refine Wp.back (U' := (T1.setTop (mkF m 7 #[.val (.ref ar), .val (.ref el)] [(.int (1 : Int32)), (.ref ar)]))) (fun t k => XT.iconstV X1.here hx rfl (1 : Int32) (hb hby i0d11_5) (by decide) (XS.iadd X1.here hx rfl (hb hby i0d11_6) rfl k)) ?_
  obtain ⟨T2, h2, X2, e2, W2, st2⟩ := putF X1 hx hZ hown (host := "") (Or.inl (hw _ (List.mem_of_getElem? (i := 73) rfl))) (Via.of (hw _ (List.mem_of_getElem? (i := 74) rfl))) e1 H6 H0 (Or.inl (hw _ (List.mem_of_getElem? (i := 46) rfl))) (hw _ (List.mem_of_getElem? (i := 27) rfl)) (ty := .int) (by decide) rfl rfl (g := (mkF m 7 #[.val (.ref ar), .val (.ref el)] [(.int (1 : Int32)), (.ref ar)])) rfl rfl (hb hby i0d11_7)
  have Fw2 := H6.same W2
  have f3_0 := Nat.le_trans Z0 (Keep.of_wr W2).1
  have f3_1 := H0.wr W2
  have f3_2 := H1.wr W2
  have f3_3 := H2.other W2 (Or.inr (slot_ne (Or.inl (hw _ (List.mem_of_getElem? (i := 49) rfl))) (Or.inl (hw _ (List.mem_of_getElem? (i := 46) rfl))) (by decide) (t := (.array (.object "java/lang/Object"))) (t' := .int) (by decide) (by decide)))
  have f3_4 := H3.other W2 (Or.inr (slot_ne (Or.inl (hw _ (List.mem_of_getElem? (i := 76) rfl))) (Or.inl (hw _ (List.mem_of_getElem? (i := 46) rfl))) (by decide) (t := .int) (t' := .int) (by decide) (by decide)))
  have f3_5 := H4.wr W2
  have f3_6 := H5.other W2 (Ne.symm ne_ar_de)
  have f3_7 := (Keep.refl h0 [ar]).wr W2 (Or.inl (List.mem_of_getElem? (i := 0) rfl))
  have N2 := Fr.snoc X2 N0 g_ar
  refine Wp.back (U' := (T2.setTop (mkF m 10 #[.val (.ref ar), .val (.ref el)] []))) st2 ?_
  refine Wp.back (U' := (T2.setTop (mkF m 13 #[.val (.ref ar), .val (.ref el)] [(.ref ar), (.ref el), (.ref ar)]))) (fun t k => XS.aloadN X2.here hx rfl (hb hby i0d11_10) rfl rfl (XS.aloadN X2.here hx rfl (hb hby i0d11_11) rfl rfl (XS.aloadN X2.here hx rfl (hb hby i0d11_12) rfl rfl k))) ?_
  obtain ⟨T4, X4, e4, st4⟩ := getF X2 hx hZ hown (host := "") (Or.inl (hw _ (List.mem_of_getElem? (i := 48) rfl))) Via.refl e2 f3_3 (g := (mkF m 13 #[.val (.ref ar), .val (.ref el)] [(.ref ar), (.ref el), (.ref ar)])) rfl rfl (hb hby i0d11_13)
  refine Wp.back (U' := (T4.setTop (mkF m 16 #[.val (.ref ar), .val (.ref el)] [(.ref de), (.ref el), (.ref ar)]))) st4 ?_
  refine Wp.back (U' := (T4.setTop (mkF m 17 #[.val (.ref ar), .val (.ref el)] [(.ref ar), (.ref de), (.ref el), (.ref ar)]))) (fun t k => XS.aloadN X4.here hx rfl (hb hby i0d11_16) rfl rfl k) ?_
  obtain ⟨T5, X5, e5, st5⟩ := getF X4 hx hZ hown (host := "") (Or.inl (hw _ (List.mem_of_getElem? (i := 75) rfl))) Via.refl e4 f3_4 (g := (mkF m 17 #[.val (.ref ar), .val (.ref el)] [(.ref ar), (.ref de), (.ref el), (.ref ar)])) rfl rfl (hb hby i0d11_17)
  refine Wp.back (U' := (T5.setTop (mkF m 20 #[.val (.ref ar), .val (.ref el)] [(.int (0 : Int32)), (.ref de), (.ref el), (.ref ar)]))) st5 ?_
  obtain ⟨cq6, q6, q6'⟩ := f3_1.cell
  obtain ⟨_, _, ⟨T6, L6, k6, n6⟩, -, X6, ⟨Lc6, hQ6, l6, y6, z6⟩, st6⟩ := X5.privateBack hx (y := (⟨"java/util/ArrayList", "add", "(Ljava/lang/Object;[Ljava/lang/Object;I)V"⟩ : MethodName)) hown (mvT hZ (hw _ (List.mem_of_getElem? (i := 77) rfl))) (mvT hZ (hw _ (List.mem_of_getElem? (i := 78) rfl))) (mvT hZ (hw _ (List.mem_of_getElem? (i := 80) rfl))) (Cond.privateMethod_at (mvP hZ (hw _ (List.mem_of_getElem? (i := 79) rfl)) (args := #[]))) (mvT hZ (hw _ (List.mem_of_getElem? (i := 81) rfl))) (by decide) (backOf (W := 0) (rm_at0 l Z a0 hw [] ar el de ke h2 n0 f3_0 f3_1 f3_2 f3_3 f3_4 f3_5 f3_6 Fw2 g_ar ne_el_ar ne_ar_de) hZ (hw _ (List.mem_of_getElem? (i := 81) rfl)) (hw _ (List.mem_of_getElem? (i := 28) rfl)) (by decide) (by decide)) (g := (mkF m 20 #[.val (.ref ar), .val (.ref el)] [(.int (0 : Int32)), (.ref de), (.ref el), (.ref ar)])) rfl (by rw [hml]; rfl) (Steps.refl _) (a := ar) (by rw [e5]; exact q6) q6' (argsL := [(.ref el), (.ref de), (.int (0 : Int32))]) (rest := []) (lenOf i0pd11_0 rfl) rfl (by show 2 * 0 + _ ≤ _; exact Nat.le_of_eq rfl) (hb hby i0d11_20) (fun _ _ => ⟨rfl, e5, (by decide : 0 + 1 ≤ _), (by decide : 0 + 10 ≤ _)⟩)
  dsimp only [Pt.U, Pt.locs, Pt.cells, Pt.slots] at X6 l6 y6 z6 st6 hQ6
  subst l6 y6 z6
  obtain ⟨b6_0, k6_0, rfl, N6q, K6, sf6_0, o6_0, o6_1, o6_2, o6_3, o6_4, o6_5⟩ := hQ6
  have ne_ar_b6_0 : ar ≠ b6_0 := Nat.ne_of_lt (Nat.lt_of_lt_of_le f3_1.lt sf6_0)
  have ne_el_b6_0 : el ≠ b6_0 := Nat.ne_of_lt (Nat.lt_of_lt_of_le f3_2.lt sf6_0)
  have ne_de_b6_0 : de ≠ b6_0 := Nat.ne_of_lt (Nat.lt_of_lt_of_le f3_6.lt sf6_0)
  have g_b6_0 : n0 ≤ b6_0 := Nat.le_trans f3_0 sf6_0
  have sz_b6_0 : h0.size ≤ b6_0 := Nat.le_trans f3_7.1 sf6_0
  have f7_0 := Nat.le_trans f3_0 K6.1
  have f7_1 := f3_1.keep K6
  have f7_2 := f3_2.keep K6
  have f7_5 := Sta_keep f3_5 K6 (allS (Exa_ns f3_1) all0)
  have f7_6 := f3_6.keep K6 (ninS (Ne.symm ne_ar_de) nin0)
  have f7_7 := f3_7.trans K6 (allS (Or.inl (List.mem_of_getElem? (i := 0) rfl)) all0)
  have N6 := Fr.app N2 N6q
  refine Wp.back (U' := (T6.setTop (mkF m 23 #[.val (.ref ar), .val (.ref el)] []))) (fun t k => st6.trans k) ?_
  refine Wp.back (U' := (T6.setTop (mkF m 24 #[.val (.ref ar), .val (.ref el)] [(.int (1 : Int32))]))) (fun t k => XT.iconstV X6.here hx rfl (1 : Int32) (hb hby i0d11_23) (by decide) k) ?_
  obtain ⟨fs, hr, hrun, hended, hW, hsame⟩ := X6.leave (v := (some (.int (1 : Int32)))) (fun h => by rw [hret] at h; cases h)
  refine Wp.done (retN X6 hx (t := .boolean) hret (by simp) (hb hby i0d11_24) hr) hrun hended ⟨_, _, rfl, ?_, ⟨_, rfl⟩, hW, hsame.mono (by decide) (by decide)⟩
  show Q_ad0 Z ar el de ke h0 n0 _ T6.heap _
  exact ⟨b6_0, k6_0, rfl, N6, f7_7, sz_b6_0, o6_0, o6_1, o6_2, o6_3, o6_4, o6_5⟩
def Q_at1 (Z : State) (ar : Addr) (el : Addr) (da : Addr) (ka : ClassId) (t0 : Addr) (h0 : Heap) (n0 : Nat) (v : Option Value) (h : Heap) (L : List Loc) : Prop := v = none ∧ Fr n0 L ∧ Keep h0 h [ar, da] ∧ Exa Z h ar "java/util/ArrayList" ∧ Fld Z h ar "java/util/AbstractList" "modCount" "I" (.int (2 : Int32)) ∧ Fld Z h ar "java/util/ArrayList" "elementData" "[Ljava/lang/Object;" (.ref da) ∧ Fld Z h ar "java/util/ArrayList" "size" "I" (.int (2 : Int32)) ∧ Arv Z h da ka (.object "java/lang/Object") (10 : Int32) [(.ref t0), (.ref el), .null, .null, .null, .null, .null, .null, .null, .null] .null ∧ Ovr Z ka "java/lang/Object"
theorem i1d12_0 : decode jdk_38_method_24_code 0 = .ok (.iload_n 3, 1) := by decide +kernel
theorem i1d12_1 : decode jdk_38_method_24_code 1 = .ok (.aload_n 2, 1) := by decide +kernel
theorem i1d12_2 : decode jdk_38_method_24_code 2 = .ok (.arraylength, 1) := by decide +kernel
theorem i1d12_3 : decode jdk_38_method_24_code 3 = .ok (.if_icmp .ne 8, 3) := by decide +kernel
theorem i1d12_11 : decode jdk_38_method_24_code 11 = .ok (.aload_n 2, 1) := by decide +kernel
theorem i1d12_12 : decode jdk_38_method_24_code 12 = .ok (.iload_n 3, 1) := by decide +kernel
theorem i1d12_13 : decode jdk_38_method_24_code 13 = .ok (.aload_n 1, 1) := by decide +kernel
theorem i1d12_14 : decode jdk_38_method_24_code 14 = .ok (.aastore, 1) := by decide +kernel
theorem i1d12_15 : decode jdk_38_method_24_code 15 = .ok (.aload_n 0, 1) := by decide +kernel
theorem i1d12_16 : decode jdk_38_method_24_code 16 = .ok (.iload_n 3, 1) := by decide +kernel
theorem i1d12_17 : decode jdk_38_method_24_code 17 = .ok (.iconst 1, 1) := by decide +kernel
theorem i1d12_18 : decode jdk_38_method_24_code 18 = .ok (.iadd, 1) := by decide +kernel
theorem i1d12_19 : decode jdk_38_method_24_code 19 = .ok (.putfield 48, 3) := by decide +kernel
theorem i1d12_22 : decode jdk_38_method_24_code 22 = .ok (.return_, 1) := by decide +kernel
theorem i1pn12 : plainName "java/util/ArrayList" = true := by first | (simp [plainName, overriddenIn]; done) | decide +kernel
theorem i1ef12 (m : MethodId) (x0 : Addr) (x1 : Addr) (x2 : Addr) (x3 : Int32) : entryFrame m #[(.ref x0), (.ref x1), (.ref x2), (.int x3)] 4 = mkF m 0 #[.val (.ref x0), .val (.ref x1), .val (.ref x2), .val (.int x3)] [] := by first | (simp [entryFrame, mkF, argsToLocals, Value.category]; done) | rfl
set_option maxRecDepth 65536 in
set_option maxHeartbeats 40000000 in
theorem rm_at1 (l : Launch) (Z : State) (a0 : Array Value) (hw : ∀ d ∈ tables_1, d.before a0 Z = true) (ws : List Jvm.Cond) (ar : Addr) (el : Addr) (da : Addr) (ka : ClassId) (t0 : Addr) (h0 : Heap) (n0 : Nat) (Z0 : n0 ≤ h0.size) (H0 : Exa Z h0 ar "java/util/ArrayList") (H1 : Exa Z h0 el "com/example/treewright/treewright/schema/AugmentTarget$Step") (H2 : Fld Z h0 ar "java/util/ArrayList" "elementData" "[Ljava/lang/Object;" (.ref da)) (H3 : Fld Z h0 ar "java/util/ArrayList" "size" "I" (.int (1 : Int32))) (H4 : Arv Z h0 da ka (.object "java/lang/Object") (10 : Int32) [(.ref t0), .null, .null, .null, .null, .null, .null, .null, .null, .null] .null) (H5 : Ovr Z ka "java/lang/Object") (H6 : Fld Z h0 ar "java/util/AbstractList" "modCount" "I" (.int (2 : Int32))) (g_ar : n0 ≤ ar) (g_da : n0 ≤ da) (ne_el_ar : el ≠ ar) (ne_el_da : el ≠ da) (ne_ar_da : ar ≠ da) :
    MetFree l (⟨"java/util/ArrayList", "add", "(Ljava/lang/Object;[Ljava/lang/Object;I)V"⟩ : MethodName) (head1 (Jvm.Cond.code (⟨"java/util/ArrayList", "add", "(Ljava/lang/Object;[Ljava/lang/Object;I)V"⟩ : MethodName) jdk_38_method_24_code 4 none :: ws) ({ frames := 0, cells := 0, slots := 0, locals := 0 } : Room)) (fun a U => a = #[(.ref ar), (.ref el), (.ref da), (.int (1 : Int32))] ∧ Z.Warmed39 U.vm ∧ U.heap = h0) (fun _ _ _ _ _ => True) (fun _ U o U' => ∃ v L, o = .returned v ∧ Q_at1 Z ar el da ka t0 h0 n0 v U'.heap L ∧ FrameEnd U o U' L ({ frames := 0, cells := 0, slots := 0, locals := 0 } : Room).cells ({ frames := 0, cells := 0, slots := 0, locals := 0 } : Room).slots) := by
  refine MetFree.of_bodySF (plainFor_of_name i1pn12) hisR ?_
  intro p e s m args below meth c s₁ Bd hml0 hP hK
  obtain ⟨rfl, hZ, hh⟩ := hP
  have hx := Bd.exec
  have hby := Bd.bytes
  have hret := Bd.returns
  have hlk := Bd.notSynchronized
  have hml : c.maxLocals = 4 := hml0
  have hown : s.vm.findClass "java/util/ArrayList" = some m.cls := findClass_of_methodNamed Bd.named
  have hnm := (name_of_methodNamed Bd.named Bd.method).1
  have X0 : Stand p l e ({ frames := 0, cells := 0, slots := 0, locals := 0 } : Room) s m #[(.ref ar), (.ref el), (.ref da), (.int (1 : Int32))] below meth c s₁ [] 0 0 := Stand.of_body Bd
  have e0 : s₁.heap = h0 := by rw [← hh, Bd.state]; rfl
  have N0 := Fr.nil n0
  show Wp p e below (fun o s₂ => ∃ v L, o = .returned v ∧ Q_at1 Z ar el da ka t0 h0 n0 v s₂.heap L ∧ FrameEnd s o s₂ L ({ frames := 0, cells := 0, slots := 0, locals := 0 } : Room).cells ({ frames := 0, cells := 0, slots := 0, locals := 0 } : Room).slots) _
  refine Wp.back (U' := (s₁.setTop (mkF m 0 #[.val (.ref ar), .val (.ref el), .val (.ref da), .val (.int (1 : Int32))] []))) (fun t k => castTop (i1ef12 m ar el da (1 : Int32)) k) ?_
  refine Wp.back (U' := (s₁.setTop (mkF m 2 #[.val (.ref ar), .val (.ref el), .val (.ref da), .val (.int (1 : Int32))] [(.ref da), (.int (1 : Int32))]))) (fun t k => XS.iloadN X0.here hx rfl (hb hby i1d12_0) rfl (XS.aloadN X0.here hx rfl (hb hby i1d12_1) rfl rfl k)) ?_
  have vq1 := H4
  obtain ⟨cl1, Ar1, -, qs1, qn1, -, -⟩ := vq1
  refine Wp.back (U' := (s₁.setTop (mkF m 3 #[.val (.ref ar), .val (.ref el), .val (.ref da), .val (.int (1 : Int32))] [(.int (10 : Int32)), (.int (1 : Int32))]))) (fun t k => X0.arraylength hx (by rw [e0]; exact Ar1.1) (State.isArrayOf_alike hZ.alike Ar1.2.1) (g := (mkF m 2 #[.val (.ref ar), .val (.ref el), .val (.ref da), .val (.int (1 : Int32))] [(.ref da), (.int (1 : Int32))])) rfl rfl (hb hby i1d12_2) t (by rw [len_of qs1 qn1]; exact k)) ?_
  refine Wp.back (U' := (s₁.setTop (mkF m 14 #[.val (.ref ar), .val (.ref el), .val (.ref da), .val (.int (1 : Int32))] [(.ref el), (.int (1 : Int32)), (.ref da)]))) (fun t k => XS.icmpYes X0.here hx rfl (pc0 := 3) (pc' := 11) rfl (hb hby i1d12_3) rfl (feq (by decide)).2 (by decide) (by decide) (XS.aloadN X0.here hx rfl (hb hby i1d12_11) rfl rfl (XS.iloadN X0.here hx rfl (hb hby i1d12_12) rfl (XS.aloadN X0.here hx rfl (hb hby i1d12_13) rfl rfl k)))) ?_
  have vq2 := H4
  obtain ⟨cl2, Ar2, qa2, qs2, qn2, qh2, qg2⟩ := vq2
  have hin2 : ¬ ((1 : Int32) < 0 ∨ cl2.slots.size ≤ ((1 : Int32)).toNatClampNeg) := inb_of qs2 ⟨by decide, by decide⟩
  obtain ⟨T2, h2, X2, e2, W2, st2⟩ := stR X0 hx hZ e0 Ar2 (j := (1 : Int32)) hin2 rfl (Sto.ofV Ar2 qa2 H5 (Ins.of_exa H1 (hw _ (List.mem_of_getElem? (i := 98) rfl)))) (g := (mkF m 14 #[.val (.ref ar), .val (.ref el), .val (.ref da), .val (.int (1 : Int32))] [(.ref el), (.int (1 : Int32)), (.ref da)])) rfl rfl (hb hby i1d12_14)
  have V2 : Arv Z h2 da ka (.object "java/lang/Object") (10 : Int32) [(.ref t0), (.ref el), .null, .null, .null, .null, .null, .null, .null, .null] .null := Arv.set Ar2 qa2 qs2 qn2 qh2 qg2 rfl W2 1 rfl (Nat.le_of_ble_eq_true rfl)
  have f3_0 := Nat.le_trans Z0 (Keep.of_wr W2).1
  have f3_1 := H0.wr W2
  have f3_2 := H1.wr W2
  have f3_3 := H2.other W2 (Or.inl ne_ar_da)
  have f3_4 := H3.other W2 (Or.inl ne_ar_da)
  have f3_6 := H6.other W2 (Or.inl ne_ar_da)
  have f3_7 := (Keep.refl h0 [ar, da]).wr W2 (Or.inl (List.mem_of_getElem? (i := 1) rfl))
  have N2 := Fr.snoc X2 N0 g_da
  refine Wp.back (U' := (T2.setTop (mkF m 15 #[.val (.ref ar), .val (.ref el), .val (.ref da), .val (.int (1 : Int32))] []))) st2 ?_
  refine Wp.back (U' := (T2.setTop (mkF m 19 #[.val (.ref ar), .val (.ref el), .val (.ref da), .val (.int (1 : Int32))] [(.int (2 : Int32)), (.ref ar)]))) (fun t k => XS.aloadN X2.here hx rfl (hb hby i1d12_15) rfl rfl (XS.iloadN X2.here hx rfl (hb hby i1d12_16) rfl (XT.iconstV X2.here hx rfl (1 : Int32) (hb hby i1d12_17) (by decide) (XS.iadd X2.here hx rfl (hb hby i1d12_18) rfl k)))) ?_
  obtain ⟨T4, h4, X4, e4, W4, st4⟩ := putF X2 hx hZ hown (host := "") (Or.inl (hw _ (List.mem_of_getElem? (i := 75) rfl))) Via.refl e2 f3_4 f3_1 (Or.inl (hw _ (List.mem_of_getElem? (i := 76) rfl))) (hw _ (List.mem_of_getElem? (i := 27) rfl)) (ty := .int) (by decide) rfl rfl (g := (mkF m 19 #[.val (.ref ar), .val (.ref el), .val (.ref da), .val (.int (1 : Int32))] [(.int (2 : Int32)), (.ref ar)])) rfl rfl (hb hby i1d12_19)
  have Fw4 := f3_4.same W4
  have f5_0 := Nat.le_trans f3_0 (Keep.of_wr W4).1
  have f5_1 := f3_1.wr W4
  have f5_2 := f3_2.wr W4
  have f5_3 := f3_3.other W4 (Or.inr (slot_ne (Or.inl (hw _ (List.mem_of_getElem? (i := 49) rfl))) (Or.inl (hw _ (List.mem_of_getElem? (i := 76) rfl))) (by decide) (t := (.array (.object "java/lang/Object"))) (t' := .int) (by decide) (by decide)))
  have f5_5 := f3_6.other W4 (Or.inr (slot_ne (Or.inl (hw _ (List.mem_of_getElem? (i := 46) rfl))) (Or.inl (hw _ (List.mem_of_getElem? (i := 76) rfl))) (by decide) (t := .int) (t' := .int) (by decide) (by decide)))
  have f5_6 := f3_7.wr W4 (Or.inl (List.mem_of_getElem? (i := 0) rfl))
  have f5_7 := V2.other W4 (Ne.symm ne_ar_da)
  have N4 := Fr.snoc X4 N2 g_ar
  refine Wp.back (U' := (T4.setTop (mkF m 22 #[.val (.ref ar), .val (.ref el), .val (.ref da), .val (.int (1 : Int32))] []))) st4 ?_
  obtain ⟨fs, hr, hrun, hended, hW, hsame⟩ := X4.leave (v := none) (fun _ => rfl)
  refine Wp.done (X4.returnOut hx hret (hb hby i1d12_22) hr) hrun hended ⟨_, _, rfl, ?_, ⟨_, rfl⟩, hW, hsame.mono (by decide) (by decide)⟩
  show Q_at1 Z ar el da ka t0 h0 n0 _ T4.heap _
  rw [e4]
  exact ⟨rfl, N4, f5_6, f5_1, f5_5, f5_3, Fw4, f5_7, H5⟩
def Q_ad1 (Z : State) (ar : Addr) (el : Addr) (da : Addr) (ka : ClassId) (t0 : Addr) (h0 : Heap) (n0 : Nat) (v : Option Value) (h : Heap) (L : List Loc) : Prop := v = some (.int (1 : Int32)) ∧ Fr n0 L ∧ Keep h0 h [ar, da] ∧ Exa Z h ar "java/util/ArrayList" ∧ Fld Z h ar "java/util/AbstractList" "modCount" "I" (.int (2 : Int32)) ∧ Fld Z h ar "java/util/ArrayList" "elementData" "[Ljava/lang/Object;" (.ref da) ∧ Fld Z h ar "java/util/ArrayList" "size" "I" (.int (2 : Int32)) ∧ Arv Z h da ka (.object "java/lang/Object") (10 : Int32) [(.ref t0), (.ref el), .null, .null, .null, .null, .null, .null, .null, .null] .null ∧ Ovr Z ka "java/lang/Object"
theorem i1d11_0 : decode jdk_38_method_25_code 0 = .ok (.aload_n 0, 1) := by decide +kernel
theorem i1d11_1 : decode jdk_38_method_25_code 1 = .ok (.dup, 1) := by decide +kernel
theorem i1d11_2 : decode jdk_38_method_25_code 2 = .ok (.getfield 63, 3) := by decide +kernel
theorem i1d11_5 : decode jdk_38_method_25_code 5 = .ok (.iconst 1, 1) := by decide +kernel
theorem i1d11_6 : decode jdk_38_method_25_code 6 = .ok (.iadd, 1) := by decide +kernel
theorem i1d11_7 : decode jdk_38_method_25_code 7 = .ok (.putfield 63, 3) := by decide +kernel
theorem i1d11_10 : decode jdk_38_method_25_code 10 = .ok (.aload_n 0, 1) := by decide +kernel
theorem i1d11_11 : decode jdk_38_method_25_code 11 = .ok (.aload_n 1, 1) := by decide +kernel
theorem i1d11_12 : decode jdk_38_method_25_code 12 = .ok (.aload_n 0, 1) := by decide +kernel
theorem i1d11_13 : decode jdk_38_method_25_code 13 = .ok (.getfield 9, 3) := by decide +kernel
theorem i1d11_16 : decode jdk_38_method_25_code 16 = .ok (.aload_n 0, 1) := by decide +kernel
theorem i1d11_17 : decode jdk_38_method_25_code 17 = .ok (.getfield 48, 3) := by decide +kernel
theorem i1d11_20 : decode jdk_38_method_25_code 20 = .ok (.invokevirtual 131, 3) := by decide +kernel
theorem i1d11_23 : decode jdk_38_method_25_code 23 = .ok (.iconst 1, 1) := by decide +kernel
theorem i1d11_24 : decode jdk_38_method_25_code 24 = .ok (.ireturn, 1) := by decide +kernel
theorem i1pd11_0 : parseMethodDescriptor "(Ljava/lang/Object;[Ljava/lang/Object;I)V" = some ⟨[(.object "java/lang/Object"), (.array (.object "java/lang/Object")), .int], none⟩ := by decide +kernel
theorem i1pn11 : plainName "java/util/ArrayList" = true := by first | (simp [plainName, overriddenIn]; done) | decide +kernel
theorem i1ef11 (m : MethodId) (x0 : Addr) (x1 : Addr) : entryFrame m #[(.ref x0), (.ref x1)] 2 = mkF m 0 #[.val (.ref x0), .val (.ref x1)] [] := by first | (simp [entryFrame, mkF, argsToLocals, Value.category]; done) | rfl
set_option maxRecDepth 65536 in
set_option maxHeartbeats 40000000 in
theorem rm_ad1 (l : Launch) (Z : State) (a0 : Array Value) (hw : ∀ d ∈ tables_1, d.before a0 Z = true) (ws : List Jvm.Cond) (ar : Addr) (el : Addr) (da : Addr) (ka : ClassId) (t0 : Addr) (h0 : Heap) (n0 : Nat) (Z0 : n0 ≤ h0.size) (H0 : Exa Z h0 ar "java/util/ArrayList") (H1 : Exa Z h0 el "com/example/treewright/treewright/schema/AugmentTarget$Step") (H2 : Fld Z h0 ar "java/util/ArrayList" "elementData" "[Ljava/lang/Object;" (.ref da)) (H3 : Fld Z h0 ar "java/util/ArrayList" "size" "I" (.int (1 : Int32))) (H4 : Arv Z h0 da ka (.object "java/lang/Object") (10 : Int32) [(.ref t0), .null, .null, .null, .null, .null, .null, .null, .null, .null] .null) (H5 : Ovr Z ka "java/lang/Object") (H6 : Fld Z h0 ar "java/util/AbstractList" "modCount" "I" (.int (1 : Int32))) (g_ar : n0 ≤ ar) (g_da : n0 ≤ da) (ne_el_ar : el ≠ ar) (ne_el_da : el ≠ da) (ne_ar_da : ar ≠ da) :
    MetFree l (⟨"java/util/ArrayList", "add", "(Ljava/lang/Object;)Z"⟩ : MethodName) (head1 (Jvm.Cond.code (⟨"java/util/ArrayList", "add", "(Ljava/lang/Object;)Z"⟩ : MethodName) jdk_38_method_25_code 2 (some .boolean) :: ws) ({ frames := 1, cells := 0, slots := 0, locals := 15 } : Room)) (fun a U => a = #[(.ref ar), (.ref el)] ∧ Z.Warmed39 U.vm ∧ U.heap = h0) (fun _ _ _ _ _ => True) (fun _ U o U' => ∃ v L, o = .returned v ∧ Q_ad1 Z ar el da ka t0 h0 n0 v U'.heap L ∧ FrameEnd U o U' L ({ frames := 1, cells := 0, slots := 0, locals := 15 } : Room).cells ({ frames := 1, cells := 0, slots := 0, locals := 15 } : Room).slots) := by
  refine MetFree.of_bodySF (plainFor_of_name i1pn11) hisR ?_
  intro p e s m args below meth c s₁ Bd hml0 hP hK
  obtain ⟨rfl, hZ, hh⟩ := hP
  have hx := Bd.exec
  have hby := Bd.bytes
  have hret := Bd.returns
  have hlk := Bd.notSynchronized
  have hml : c.maxLocals = 2 := hml0
  have hown : s.vm.findClass "java/util/ArrayList" = some m.cls := findClass_of_methodNamed Bd.named
  have hnm := (name_of_methodNamed Bd.named Bd.method).1
  have X0 : Stand p l e ({ frames := 1, cells := 0, slots := 0, locals := 15 } : Room) s m #[(.ref ar), (.ref el)] below meth c s₁ [] 0 0 := Stand.of_body Bd
  have e0 : s₁.heap = h0 := by rw [← hh, Bd.state]; rfl
  have N0 := Fr.nil n0
  show Wp p e below (fun o s₂ => ∃ v L, o = .returned v ∧ Q_ad1 Z ar el da ka t0 h0 n0 v s₂.heap L ∧ FrameEnd s o s₂ L ({ frames := 1, cells := 0, slots := 0, locals := 15 } : Room).cells ({ frames := 1, cells := 0, slots := 0, locals := 15 } : Room).slots) _
  refine Wp.back (U' := (s₁.setTop (mkF m 0 #[.val (.ref ar), .val (.ref el)] []))) (fun t k => castTop (i1ef11 m ar el) k) ?_
  refine Wp.back (U' := (s₁.setTop (mkF m 2 #[.val (.ref ar), .val (.ref el)] [(.ref ar), (.ref ar)]))) (fun t k => XS.aloadN X0.here hx rfl (hb hby i1d11_0) rfl rfl (XS.dup X0.here hx rfl (hb hby i1d11_1) rfl rfl k)) ?_
  obtain ⟨T1, X1, e1, st1⟩ := getF X0 hx hZ hown (host := "") (Or.inl (hw _ (List.mem_of_getElem? (i := 73) rfl))) (Via.of (hw _ (List.mem_of_getElem? (i := 74) rfl))) e0 H6 (g := (mkF m 2 #[.val (.ref ar), .val (.ref el)] [(.ref ar), (.ref ar)])) rfl rfl (hb hby i1d11_2)
  refine Wp.back (U' := (T1.setTop (mkF m 5 #[.val (.ref ar), .val (.ref el)] [(.int (1 : Int32)), (.ref ar)]))) st1 ?_
  refine Wp.back (U' := (T1.setTop (mkF m 7 #[.val (.ref ar), .val (.ref el)] [(.int (2 : Int32)), (.ref ar)]))) (fun t k => XT.iconstV X1.here hx rfl (1 : Int32) (hb hby i1d11_5) (by decide) (XS.iadd X1.here hx rfl (hb hby i1d11_6) rfl k)) ?_
  obtain ⟨T2, h2, X2, e2, W2, st2⟩ := putF X1 hx hZ hown (host := "") (Or.inl (hw _ (List.mem_of_getElem? (i := 73) rfl))) (Via.of (hw _ (List.mem_of_getElem? (i := 74) rfl))) e1 H6 H0 (Or.inl (hw _ (List.mem_of_getElem? (i := 46) rfl))) (hw _ (List.mem_of_getElem? (i := 27) rfl)) (ty := .int) (by decide) rfl rfl (g := (mkF m 7 #[.val (.ref ar), .val (.ref el)] [(.int (2 : Int32)), (.ref ar)])) rfl rfl (hb hby i1d11_7)
  have Fw2 := H6.same W2
  have f3_0 := Nat.le_trans Z0 (Keep.of_wr W2).1
  have f3_1 := H0.wr W2
  have f3_2 := H1.wr W2
  have f3_3 := H2.other W2 (Or.inr (slot_ne (Or.inl (hw _ (List.mem_of_getElem? (i := 49) rfl))) (Or.inl (hw _ (List.mem_of_getElem? (i := 46) rfl))) (by decide) (t := (.array (.object "java/lang/Object"))) (t' := .int) (by decide) (by decide)))
  have f3_4 := H3.other W2 (Or.inr (slot_ne (Or.inl (hw _ (List.mem_of_getElem? (i := 76) rfl))) (Or.inl (hw _ (List.mem_of_getElem? (i := 46) rfl))) (by decide) (t := .int) (t' := .int) (by decide) (by decide)))
  have f3_5 := H4.other W2 (Ne.symm ne_ar_da)
  have f3_7 := (Keep.refl h0 [ar, da]).wr W2 (Or.inl (List.mem_of_getElem? (i := 0) rfl))
  have N2 := Fr.snoc X2 N0 g_ar
  refine Wp.back (U' := (T2.setTop (mkF m 10 #[.val (.ref ar), .val (.ref el)] []))) st2 ?_
  refine Wp.back (U' := (T2.setTop (mkF m 13 #[.val (.ref ar), .val (.ref el)] [(.ref ar), (.ref el), (.ref ar)]))) (fun t k => XS.aloadN X2.here hx rfl (hb hby i1d11_10) rfl rfl (XS.aloadN X2.here hx rfl (hb hby i1d11_11) rfl rfl (XS.aloadN X2.here hx rfl (hb hby i1d11_12) rfl rfl k))) ?_
  obtain ⟨T4, X4, e4, st4⟩ := getF X2 hx hZ hown (host := "") (Or.inl (hw _ (List.mem_of_getElem? (i := 48) rfl))) Via.refl e2 f3_3 (g := (mkF m 13 #[.val (.ref ar), .val (.ref el)] [(.ref ar), (.ref el), (.ref ar)])) rfl rfl (hb hby i1d11_13)
  refine Wp.back (U' := (T4.setTop (mkF m 16 #[.val (.ref ar), .val (.ref el)] [(.ref da), (.ref el), (.ref ar)]))) st4 ?_
  refine Wp.back (U' := (T4.setTop (mkF m 17 #[.val (.ref ar), .val (.ref el)] [(.ref ar), (.ref da), (.ref el), (.ref ar)]))) (fun t k => XS.aloadN X4.here hx rfl (hb hby i1d11_16) rfl rfl k) ?_
  obtain ⟨T5, X5, e5, st5⟩ := getF X4 hx hZ hown (host := "") (Or.inl (hw _ (List.mem_of_getElem? (i := 75) rfl))) Via.refl e4 f3_4 (g := (mkF m 17 #[.val (.ref ar), .val (.ref el)] [(.ref ar), (.ref da), (.ref el), (.ref ar)])) rfl rfl (hb hby i1d11_17)
  refine Wp.back (U' := (T5.setTop (mkF m 20 #[.val (.ref ar), .val (.ref el)] [(.int (1 : Int32)), (.ref da), (.ref el), (.ref ar)]))) st5 ?_
  obtain ⟨cq6, q6, q6'⟩ := f3_1.cell
  obtain ⟨_, _, ⟨T6, L6, k6, n6⟩, -, X6, ⟨Lc6, hQ6, l6, y6, z6⟩, st6⟩ := X5.privateBack hx (y := (⟨"java/util/ArrayList", "add", "(Ljava/lang/Object;[Ljava/lang/Object;I)V"⟩ : MethodName)) hown (mvT hZ (hw _ (List.mem_of_getElem? (i := 77) rfl))) (mvT hZ (hw _ (List.mem_of_getElem? (i := 78) rfl))) (mvT hZ (hw _ (List.mem_of_getElem? (i := 80) rfl))) (Cond.privateMethod_at (mvP hZ (hw _ (List.mem_of_getElem? (i := 79) rfl)) (args := #[]))) (mvT hZ (hw _ (List.mem_of_getElem? (i := 81) rfl))) (by decide) (backOf (W := 0) (rm_at1 l Z a0 hw [] ar el da ka t0 h2 n0 f3_0 f3_1 f3_2 f3_3 f3_4 f3_5 H5 Fw2 g_ar g_da ne_el_ar ne_el_da ne_ar_da) hZ (hw _ (List.mem_of_getElem? (i := 81) rfl)) (hw _ (List.mem_of_getElem? (i := 28) rfl)) (by decide) (by decide)) (g := (mkF m 20 #[.val (.ref ar), .val (.ref el)] [(.int (1 : Int32)), (.ref da), (.ref el), (.ref ar)])) rfl (by rw [hml]; rfl) (Steps.refl _) (a := ar) (by rw [e5]; exact q6) q6' (argsL := [(.ref el), (.ref da), (.int (1 : Int32))]) (rest := []) (lenOf i1pd11_0 rfl) rfl (by show 2 * 0 + _ ≤ _; exact Nat.le_of_eq rfl) (hb hby i1d11_20) (fun _ _ => ⟨rfl, e5, (by decide : 0 + 0 ≤ _), (by decide : 0 + 0 ≤ _)⟩)
  dsimp only [Pt.U, Pt.locs, Pt.cells, Pt.slots] at X6 l6 y6 z6 st6 hQ6
  subst l6 y6 z6
  obtain ⟨rfl, N6q, K6, o6_0, o6_1, o6_2, o6_3, o6_4, o6_5⟩ := hQ6
  have f7_0 := Nat.le_trans f3_0 K6.1
  have f7_1 := f3_1.keep K6
  have f7_2 := f3_2.keep K6
  have f7_7 := f3_7.trans K6 (allS (Or.inl (List.mem_of_getElem? (i := 0) rfl)) (allS (Or.inl (List.mem_of_getElem? (i := 1) rfl)) all0))
  have N6 := Fr.app N2 N6q
  refine Wp.back (U' := (T6.setTop (mkF m 23 #[.val (.ref ar), .val (.ref el)] []))) (fun t k => st6.trans k) ?_
  refine Wp.back (U' := (T6.setTop (mkF m 24 #[.val (.ref ar), .val (.ref el)] [(.int (1 : Int32))]))) (fun t k => XT.iconstV X6.here hx rfl (1 : Int32) (hb hby i1d11_23) (by decide) k) ?_
  obtain ⟨fs, hr, hrun, hended, hW, hsame⟩ := X6.leave (v := (some (.int (1 : Int32)))) (fun h => by rw [hret] at h; cases h)
  refine Wp.done (retN X6 hx (t := .boolean) hret (by simp) (hb hby i1d11_24) hr) hrun hended ⟨_, _, rfl, ?_, ⟨_, rfl⟩, hW, hsame.mono (by decide) (by decide)⟩
  show Q_ad1 Z ar el da ka t0 h0 n0 _ T6.heap _
  exact ⟨rfl, N6, f7_7, o6_0, o6_1, o6_2, o6_3, o6_4, o6_5⟩
def Q_at2 (Z : State) (ar : Addr) (el : Addr) (da : Addr) (ka : ClassId) (t0 : Addr) (t1 : Addr) (h0 : Heap) (n0 : Nat) (v : Option Value) (h : Heap) (L : List Loc) : Prop := v = none ∧ Fr n0 L ∧ Keep h0 h [ar, da] ∧ Exa Z h ar "java/util/ArrayList" ∧ Fld Z h ar "java/util/AbstractList" "modCount" "I" (.int (3 : Int32)) ∧ Fld Z h ar "java/util/ArrayList" "elementData" "[Ljava/lang/Object;" (.ref da) ∧ Fld Z h ar "java/util/ArrayList" "size" "I" (.int (3 : Int32)) ∧ Arv Z h da ka (.object "java/lang/Object") (10 : Int32) [(.ref t0), (.ref t1), (.ref el), .null, .null, .null, .null, .null, .null, .null] .null ∧ Ovr Z ka "java/lang/Object"
theorem i2d12_0 : decode jdk_38_method_24_code 0 = .ok (.iload_n 3, 1) := by decide +kernel
theorem i2d12_1 : decode jdk_38_method_24_code 1 = .ok (.aload_n 2, 1) := by decide +kernel
theorem i2d12_2 : decode jdk_38_method_24_code 2 = .ok (.arraylength, 1) := by decide +kernel
theorem i2d12_3 : decode jdk_38_method_24_code 3 = .ok (.if_icmp .ne 8, 3) := by decide +kernel
theorem i2d12_11 : decode jdk_38_method_24_code 11 = .ok (.aload_n 2, 1) := by decide +kernel
theorem i2d12_12 : decode jdk_38_method_24_code 12 = .ok (.iload_n 3, 1) := by decide +kernel
theorem i2d12_13 : decode jdk_38_method_24_code 13 = .ok (.aload_n 1, 1) := by decide +kernel
theorem i2d12_14 : decode jdk_38_method_24_code 14 = .ok (.aastore, 1) := by decide +kernel
theorem i2d12_15 : decode jdk_38_method_24_code 15 = .ok (.aload_n 0, 1) := by decide +kernel
theorem i2d12_16 : decode jdk_38_method_24_code 16 = .ok (.iload_n 3, 1) := by decide +kernel
theorem i2d12_17 : decode jdk_38_method_24_code 17 = .ok (.iconst 1, 1) := by decide +kernel
theorem i2d12_18 : decode jdk_38_method_24_code 18 = .ok (.iadd, 1) := by decide +kernel
theorem i2d12_19 : decode jdk_38_method_24_code 19 = .ok (.putfield 48, 3) := by decide +kernel
theorem i2d12_22 : decode jdk_38_method_24_code 22 = .ok (.return_, 1) := by decide +kernel
theorem i2pn12 : plainName "java/util/ArrayList" = true := by first | (simp [plainName, overriddenIn]; done) | decide +kernel
theorem i2ef12 (m : MethodId) (x0 : Addr) (x1 : Addr) (x2 : Addr) (x3 : Int32) : entryFrame m #[(.ref x0), (.ref x1), (.ref x2), (.int x3)] 4 = mkF m 0 #[.val (.ref x0), .val (.ref x1), .val (.ref x2), .val (.int x3)] [] := by first | (simp [entryFrame, mkF, argsToLocals, Value.category]; done) | rfl
set_option maxRecDepth 65536 in
set_option maxHeartbeats 40000000 in
theorem rm_at2 (l : Launch) (Z : State) (a0 : Array Value) (hw : ∀ d ∈ tables_1, d.before a0 Z = true) (ws : List Jvm.Cond) (ar : Addr) (el : Addr) (da : Addr) (ka : ClassId) (t0 : Addr) (t1 : Addr) (h0 : Heap) (n0 : Nat) (Z0 : n0 ≤ h0.size) (H0 : Exa Z h0 ar "java/util/ArrayList") (H1 : Exa Z h0 el "com/example/treewright/treewright/schema/AugmentTarget$Step") (H2 : Fld Z h0 ar "java/util/ArrayList" "elementData" "[Ljava/lang/Object;" (.ref da)) (H3 : Fld Z h0 ar "java/util/ArrayList" "size" "I" (.int (2 : Int32))) (H4 : Arv Z h0 da ka (.object "java/lang/Object") (10 : Int32) [(.ref t0), (.ref t1), .null, .null, .null, .null, .null, .null, .null, .null] .null) (H5 : Ovr Z ka "java/lang/Object") (H6 : Fld Z h0 ar "java/util/AbstractList" "modCount" "I" (.int (3 : Int32))) (g_ar : n0 ≤ ar) (g_da : n0 ≤ da) (ne_el_ar : el ≠ ar) (ne_el_da : el ≠ da) (ne_ar_da : ar ≠ da) :
    MetFree l (⟨"java/util/ArrayList", "add", "(Ljava/lang/Object;[Ljava/lang/Object;I)V"⟩ : MethodName) (head1 (Jvm.Cond.code (⟨"java/util/ArrayList", "add", "(Ljava/lang/Object;[Ljava/lang/Object;I)V"⟩ : MethodName) jdk_38_method_24_code 4 none :: ws) ({ frames := 0, cells := 0, slots := 0, locals := 0 } : Room)) (fun a U => a = #[(.ref ar), (.ref el), (.ref da), (.int (2 : Int32))] ∧ Z.Warmed39 U.vm ∧ U.heap = h0) (fun _ _ _ _ _ => True) (fun _ U o U' => ∃ v L, o = .returned v ∧ Q_at2 Z ar el da ka t0 t1 h0 n0 v U'.heap L ∧ FrameEnd U o U' L ({ frames := 0, cells := 0, slots := 0, locals := 0 } : Room).cells ({ frames := 0, cells := 0, slots := 0, locals := 0 } : Room).slots) := by
  refine MetFree.of_bodySF (plainFor_of_name i2pn12) hisR ?_
  intro p e s m args below meth c s₁ Bd hml0 hP hK
  obtain ⟨rfl, hZ, hh⟩ := hP
  have hx := Bd.exec
  have hby := Bd.bytes
  have hret := Bd.returns
  have hlk := Bd.notSynchronized
  have hml : c.maxLocals = 4 := hml0
  have hown : s.vm.findClass "java/util/ArrayList" = some m.cls := findClass_of_methodNamed Bd.named
  have hnm := (name_of_methodNamed Bd.named Bd.method).1
  have X0 : Stand p l e ({ frames := 0, cells := 0, slots := 0, locals := 0 } : Room) s m #[(.ref ar), (.ref el), (.ref da), (.int (2 : Int32))] below meth c s₁ [] 0 0 := Stand.of_body Bd
  have e0 : s₁.heap = h0 := by rw [← hh, Bd.state]; rfl
  have N0 := Fr.nil n0
  show Wp p e below (fun o s₂ => ∃ v L, o = .returned v ∧ Q_at2 Z ar el da ka t0 t1 h0 n0 v s₂.heap L ∧ FrameEnd s o s₂ L ({ frames := 0, cells := 0, slots := 0, locals := 0 } : Room).cells ({ frames := 0, cells := 0, slots := 0, locals := 0 } : Room).slots) _
  refine Wp.back (U' := (s₁.setTop (mkF m 0 #[.val (.ref ar), .val (.ref el), .val (.ref da), .val (.int (2 : Int32))] []))) (fun t k => castTop (i2ef12 m ar el da (2 : Int32)) k) ?_
  refine Wp.back (U' := (s₁.setTop (mkF m 2 #[.val (.ref ar), .val (.ref el), .val (.ref da), .val (.int (2 : Int32))] [(.ref da), (.int (2 : Int32))]))) (fun t k => XS.iloadN X0.here hx rfl (hb hby i2d12_0) rfl (XS.aloadN X0.here hx rfl (hb hby i2d12_1) rfl rfl k)) ?_
  have vq1 := H4
  obtain ⟨cl1, Ar1, -, qs1, qn1, -, -⟩ := vq1
  refine Wp.back (U' := (s₁.setTop (mkF m 3 #[.val (.ref ar), .val (.ref el), .val (.ref da), .val (.int (2 : Int32))] [(.int (10 : Int32)), (.int (2 : Int32))]))) (fun t k => X0.arraylength hx (by rw [e0]; exact Ar1.1) (State.isArrayOf_alike hZ.alike Ar1.2.1) (g := (mkF m 2 #[.val (.ref ar), .val (.ref el), .val (.ref da), .val (.int (2 : Int32))] [(.ref da), (.int (2 : Int32))])) rfl rfl (hb hby i2d12_2) t (by rw [len_of qs1 qn1]; exact k)) ?_
  refine Wp.back (U' := (s₁.setTop (mkF m 14 #[.val (.ref ar), .val (.ref el), .val (.ref da), .val (.int (2 : Int32))] [(.ref el), (.int (2 : Int32)), (.ref da)]))) (fun t k => XS.icmpYes X0.here hx rfl (pc0 := 3) (pc' := 11) rfl (hb hby i2d12_3) rfl (feq (by decide)).2 (by decide) (by decide) (XS.aloadN X0.here hx rfl (hb hby i2d12_11) rfl rfl (XS.iloadN X0.here hx rfl (hb hby i2d12_12) rfl (XS.aloadN X0.here hx rfl (hb hby i2d12_13) rfl rfl k)))) ?_
  have vq2 := H4
  obtain ⟨cl2, Ar2, qa2, qs2, qn2, qh2, qg2⟩ := vq2
  have hin2 : ¬ ((2 : Int32) < 0 ∨ cl2.slots.size ≤ ((2 : Int32)).toNatClampNeg) := inb_of qs2 ⟨by decide, by decide⟩
  obtain ⟨T2, h2, X2, e2, W2, st2⟩ := stR X0 hx hZ e0 Ar2 (j := (2 : Int32)) hin2 rfl (Sto.ofV Ar2 qa2 H5 (Ins.of_exa H1 (hw _ (List.mem_of_getElem? (i := 98) rfl)))) (g := (mkF m 14 #[.val (.ref ar), .val (.ref el), .val (.ref da), .val (.int (2 : Int32))] [(.ref el), (.int (2 : Int32)), (.ref da)])) rfl rfl (hb hby i2d12_14)
  have V2 : Arv Z h2 da ka (.object "java/lang/Object") (10 : Int32) [(.ref t0), (.ref t1), (.ref el), .null, .null, .null, .null, .null, .null, .null] .null := Arv.set Ar2 qa2 qs2 qn2 qh2 qg2 rfl W2 2 rfl (Nat.le_of_ble_eq_true rfl)
  have f3_0 := Nat.le_trans Z0 (Keep.of_wr W2).1
  have f3_1 := H0.wr W2
  have f3_2 := H1.wr W2
  have f3_3 := H2.other W2 (Or.inl ne_ar_da)
  have f3_4 := H3.other W2 (Or.inl ne_ar_da)
  have f3_6 := H6.other W2 (Or.inl ne_ar_da)
  have f3_7 := (Keep.refl h0 [ar, da]).wr W2 (Or.inl (List.mem_of_getElem? (i := 1) rfl))
  have N2 := Fr.snoc X2 N0 g_da
  refine Wp.back (U' := (T2.setTop (mkF m 15 #[.val (.ref ar), .val (.ref el), .val (.ref da), .val (.int (2 : Int32))] []))) st2 ?_
  refine Wp.back (U' := (T2.setTop (mkF m 19 #[.val (.ref ar), .val (.ref el), .val (.ref da), .val (.int (2 : Int32))] [(.int (3 : Int32)), (.ref ar)]))) (fun t k => XS.aloadN X2.here hx rfl (hb hby i2d12_15) rfl rfl (XS.iloadN X2.here hx rfl (hb hby i2d12_16) rfl (XT.iconstV X2.here hx rfl (1 : Int32) (hb hby i2d12_17) (by decide) (XS.iadd X2.here hx rfl (hb hby i2d12_18) rfl k)))) ?_
  obtain ⟨T4, h4, X4, e4, W4, st4⟩ := putF X2 hx hZ hown (host := "") (Or.inl (hw _ (List.mem_of_getElem? (i := 75) rfl))) Via.refl e2 f3_4 f3_1 (Or.inl (hw _ (List.mem_of_getElem? (i := 76) rfl))) (hw _ (List.mem_of_getElem? (i := 27) rfl)) (ty := .int) (by decide) rfl rfl (g := (mkF m 19 #[.val (.ref ar), .val (.ref el), .val (.ref da), .val (.int (2 : Int32))] [(.int (3 : Int32)), (.ref ar)])) rfl rfl (hb hby i2d12_19)
  have Fw4 := f3_4.same W4
  have f5_0 := Nat.le_trans f3_0 (Keep.of_wr W4).1
  have f5_1 := f3_1.wr W4
  have f5_2 := f3_2.wr W4
  have f5_3 := f3_3.other W4 (Or.inr (slot_ne (Or.inl (hw _ (List.mem_of_getElem? (i := 49) rfl))) (Or.inl (hw _ (List.mem_of_getElem? (i := 76) rfl))) (by decide) (t := (.array (.object "java/lang/Object"))) (t' := .int) (by decide) (by decide)))
  have f5_5 := f3_6.other W4 (Or.inr (slot_ne (Or.inl (hw _ (List.mem_of_getElem? (i := 46) rfl))) (Or.inl (hw _ (List.mem_of_getElem? (i := 76) rfl))) (by decide) (t := .int) (t' := .int) (by decide) (by decide)))
  have f5_6 := f3_7.wr W4 (Or.inl (List.mem_of_getElem? (i := 0) rfl))
  have f5_7 := V2.other W4 (Ne.symm ne_ar_da)
  have N4 := Fr.snoc X4 N2 g_ar
  refine Wp.back (U' := (T4.setTop (mkF m 22 #[.val (.ref ar), .val (.ref el), .val (.ref da), .val (.int (2 : Int32))] []))) st4 ?_
  obtain ⟨fs, hr, hrun, hended, hW, hsame⟩ := X4.leave (v := none) (fun _ => rfl)
  refine Wp.done (X4.returnOut hx hret (hb hby i2d12_22) hr) hrun hended ⟨_, _, rfl, ?_, ⟨_, rfl⟩, hW, hsame.mono (by decide) (by decide)⟩
  show Q_at2 Z ar el da ka t0 t1 h0 n0 _ T4.heap _
  rw [e4]
  exact ⟨rfl, N4, f5_6, f5_1, f5_5, f5_3, Fw4, f5_7, H5⟩
def Q_ad2 (Z : State) (ar : Addr) (el : Addr) (da : Addr) (ka : ClassId) (t0 : Addr) (t1 : Addr) (h0 : Heap) (n0 : Nat) (v : Option Value) (h : Heap) (L : List Loc) : Prop := v = some (.int (1 : Int32)) ∧ Fr n0 L ∧ Keep h0 h [ar, da] ∧ Exa Z h ar "java/util/ArrayList" ∧ Fld Z h ar "java/util/AbstractList" "modCount" "I" (.int (3 : Int32)) ∧ Fld Z h ar "java/util/ArrayList" "elementData" "[Ljava/lang/Object;" (.ref da) ∧ Fld Z h ar "java/util/ArrayList" "size" "I" (.int (3 : Int32)) ∧ Arv Z h da ka (.object "java/lang/Object") (10 : Int32) [(.ref t0), (.ref t1), (.ref el), .null, .null, .null, .null, .null, .null, .null] .null ∧ Ovr Z ka "java/lang/Object"
theorem i2d11_0 : decode jdk_38_method_25_code 0 = .ok (.aload_n 0, 1) := by decide +kernel
theorem i2d11_1 : decode jdk_38_method_25_code 1 = .ok (.dup, 1) := by decide +kernel
theorem i2d11_2 : decode jdk_38_method_25_code 2 = .ok (.getfield 63, 3) := by decide +kernel
theorem i2d11_5 : decode jdk_38_method_25_code 5 = .ok (.iconst 1, 1) := by decide +kernel
theorem i2d11_6 : decode jdk_38_method_25_code 6 = .ok (.iadd, 1) := by decide +kernel
theorem i2d11_7 : decode jdk_38_method_25_code 7 = .ok (.putfield 63, 3) := by decide +kernel
theorem i2d11_10 : decode jdk_38_method_25_code 10 = .ok (.aload_n 0, 1) := by decide +kernel
theorem i2d11_11 : decode jdk_38_method_25_code 11 = .ok (.aload_n 1, 1) := by decide +kernel
theorem i2d11_12 : decode jdk_38_method_25_code 12 = .ok (.aload_n 0, 1) := by decide +kernel
theorem i2d11_13 : decode jdk_38_method_25_code 13 = .ok (.getfield 9, 3) := by decide +kernel
theorem i2d11_16 : decode jdk_38_method_25_code 16 = .ok (.aload_n 0, 1) := by decide +kernel
theorem i2d11_17 : decode jdk_38_method_25_code 17 = .ok (.getfield 48, 3) := by decide +kernel
theorem i2d11_20 : decode jdk_38_method_25_code 20 = .ok (.invokevirtual 131, 3) := by decide +kernel
theorem i2d11_23 : decode jdk_38_method_25_code 23 = .ok (.iconst 1, 1) := by decide +kernel
theorem i2d11_24 : decode jdk_38_method_25_code 24 = .ok (.ireturn, 1) := by decide +kernel
theorem i2pd11_0 : parseMethodDescriptor "(Ljava/lang/Object;[Ljava/lang/Object;I)V" = some ⟨[(.object "java/lang/Object"), (.array (.object "java/lang/Object")), .int], none⟩ := by decide +kernel
theorem i2pn11 : plainName "java/util/ArrayList" = true := by first | (simp [plainName, overriddenIn]; done) | decide +kernel
theorem i2ef11 (m : MethodId) (x0 : Addr) (x1 : Addr) : entryFrame m #[(.ref x0), (.ref x1)] 2 = mkF m 0 #[.val (.ref x0), .val (.ref x1)] [] := by first | (simp [entryFrame, mkF, argsToLocals, Value.category]; done) | rfl
set_option maxRecDepth 65536 in
set_option maxHeartbeats 40000000 in
theorem rm_ad2 (l : Launch) (Z : State) (a0 : Array Value) (hw : ∀ d ∈ tables_1, d.before a0 Z = true) (ws : List Jvm.Cond) (ar : Addr) (el : Addr) (da : Addr) (ka : ClassId) (t0 : Addr) (t1 : Addr) (h0 : Heap) (n0 : Nat) (Z0 : n0 ≤ h0.size) (H0 : Exa Z h0 ar "java/util/ArrayList") (H1 : Exa Z h0 el "com/example/treewright/treewright/schema/AugmentTarget$Step") (H2 : Fld Z h0 ar "java/util/ArrayList" "elementData" "[Ljava/lang/Object;" (.ref da)) (H3 : Fld Z h0 ar "java/util/ArrayList" "size" "I" (.int (2 : Int32))) (H4 : Arv Z h0 da ka (.object "java/lang/Object") (10 : Int32) [(.ref t0), (.ref t1), .null, .null, .null, .null, .null, .null, .null, .null] .null) (H5 : Ovr Z ka "java/lang/Object") (H6 : Fld Z h0 ar "java/util/AbstractList" "modCount" "I" (.int (2 : Int32))) (g_ar : n0 ≤ ar) (g_da : n0 ≤ da) (ne_el_ar : el ≠ ar) (ne_el_da : el ≠ da) (ne_ar_da : ar ≠ da) :
    MetFree l (⟨"java/util/ArrayList", "add", "(Ljava/lang/Object;)Z"⟩ : MethodName) (head1 (Jvm.Cond.code (⟨"java/util/ArrayList", "add", "(Ljava/lang/Object;)Z"⟩ : MethodName) jdk_38_method_25_code 2 (some .boolean) :: ws) ({ frames := 1, cells := 0, slots := 0, locals := 15 } : Room)) (fun a U => a = #[(.ref ar), (.ref el)] ∧ Z.Warmed39 U.vm ∧ U.heap = h0) (fun _ _ _ _ _ => True) (fun _ U o U' => ∃ v L, o = .returned v ∧ Q_ad2 Z ar el da ka t0 t1 h0 n0 v U'.heap L ∧ FrameEnd U o U' L ({ frames := 1, cells := 0, slots := 0, locals := 15 } : Room).cells ({ frames := 1, cells := 0, slots := 0, locals := 15 } : Room).slots) := by
  refine MetFree.of_bodySF (plainFor_of_name i2pn11) hisR ?_
  intro p e s m args below meth c s₁ Bd hml0 hP hK
  obtain ⟨rfl, hZ, hh⟩ := hP
  have hx := Bd.exec
  have hby := Bd.bytes
  have hret := Bd.returns
  have hlk := Bd.notSynchronized
  have hml : c.maxLocals = 2 := hml0
  have hown : s.vm.findClass "java/util/ArrayList" = some m.cls := findClass_of_methodNamed Bd.named
  have hnm := (name_of_methodNamed Bd.named Bd.method).1
  have X0 : Stand p l e ({ frames := 1, cells := 0, slots := 0, locals := 15 } : Room) s m #[(.ref ar), (.ref el)] below meth c s₁ [] 0 0 := Stand.of_body Bd
  have e0 : s₁.heap = h0 := by rw [← hh, Bd.state]; rfl
  have N0 := Fr.nil n0
  show Wp p e below (fun o s₂ => ∃ v L, o = .returned v ∧ Q_ad2 Z ar el da ka t0 t1 h0 n0 v s₂.heap L ∧ FrameEnd s o s₂ L ({ frames := 1, cells := 0, slots := 0, locals := 15 } : Room).cells ({ frames := 1, cells := 0, slots := 0, locals := 15 } : Room).slots) _
  refine Wp.back (U' := (s₁.setTop (mkF m 0 #[.val (.ref ar), .val (.ref el)] []))) (fun t k => castTop (i2ef11 m ar el) k) ?_
  refine Wp.back (U' := (s₁.setTop (mkF m 2 #[.val (.ref ar), .val (.ref el)] [(.ref ar), (.ref ar)]))) (fun t k => XS.aloadN X0.here hx rfl (hb hby i2d11_0) rfl rfl (XS.dup X0.here hx rfl (hb hby i2d11_1) rfl rfl k)) ?_
  obtain ⟨T1, X1, e1, st1⟩ := getF X0 hx hZ hown (host := "") (Or.inl (hw _ (List.mem_of_getElem? (i := 73) rfl))) (Via.of (hw _ (List.mem_of_getElem? (i := 74) rfl))) e0 H6 (g := (mkF m 2 #[.val (.ref ar), .val (.ref el)] [(.ref ar), (.ref ar)])) rfl rfl (hb hby i2d11_2)
  refine Wp.back (U' := (T1.setTop (mkF m 5 #[.val (.ref ar), .val (.ref el)] [(.int (2 : Int32)), (.ref ar)]))) st1 ?_
  refine Wp.back (U' := (T1.setTop (mkF m 7 #[.val (.ref ar), .val (.ref el)] [(.int (3 : Int32)), (.ref ar)]))) (fun t k => XT.iconstV X1.here hx rfl (1 : Int32) (hb hby i2d11_5) (by decide) (XS.iadd X1.here hx rfl (hb hby i2d11_6) rfl k)) ?_
  obtain ⟨T2, h2, X2, e2, W2, st2⟩ := putF X1 hx hZ hown (host := "") (Or.inl (hw _ (List.mem_of_getElem? (i := 73) rfl))) (Via.of (hw _ (List.mem_of_getElem? (i := 74) rfl))) e1 H6 H0 (Or.inl (hw _ (List.mem_of_getElem? (i := 46) rfl))) (hw _ (List.mem_of_getElem? (i := 27) rfl)) (ty := .int) (by decide) rfl rfl (g := (mkF m 7 #[.val (.ref ar), .val (.ref el)] [(.int (3 : Int32)), (.ref ar)])) rfl rfl (hb hby i2d11_7)
  have Fw2 := H6.same W2
  have f3_0 := Nat.le_trans Z0 (Keep.of_wr W2).1
  have f3_1 := H0.wr W2
  have f3_2 := H1.wr W2
  have f3_3 := H2.other W2 (Or.inr (slot_ne (Or.inl (hw _ (List.mem_of_getElem? (i := 49) rfl))) (Or.inl (hw _ (List.mem_of_getElem? (i := 46) rfl))) (by decide) (t := (.array (.object "java/lang/Object"))) (t' := .int) (by decide) (by decide)))
  have f3_4 := H3.other W2 (Or.inr (slot_ne (Or.inl (hw _ (List.mem_of_getElem? (i := 76) rfl))) (Or.inl (hw _ (List.mem_of_getElem? (i := 46) rfl))) (by decide) (t := .int) (t' := .int) (by decide) (by decide)))
  have f3_5 := H4.other W2 (Ne.symm ne_ar_da)
  have f3_7 := (Keep.refl h0 [ar, da]).wr W2 (Or.inl (List.mem_of_getElem? (i := 0) rfl))
  have N2 := Fr.snoc X2 N0 g_ar
  refine Wp.back (U' := (T2.setTop (mkF m 10 #[.val (.ref ar), .val (.ref el)] []))) st2 ?_
  refine Wp.back (U' := (T2.setTop (mkF m 13 #[.val (.ref ar), .val (.ref el)] [(.ref ar), (.ref el), (.ref ar)]))) (fun t k => XS.aloadN X2.here hx rfl (hb hby i2d11_10) rfl rfl (XS.aloadN X2.here hx rfl (hb hby i2d11_11) rfl rfl (XS.aloadN X2.here hx rfl (hb hby i2d11_12) rfl rfl k))) ?_
  obtain ⟨T4, X4, e4, st4⟩ := getF X2 hx hZ hown (host := "") (Or.inl (hw _ (List.mem_of_getElem? (i := 48) rfl))) Via.refl e2 f3_3 (g := (mkF m 13 #[.val (.ref ar), .val (.ref el)] [(.ref ar), (.ref el), (.ref ar)])) rfl rfl (hb hby i2d11_13)
  refine Wp.back (U' := (T4.setTop (mkF m 16 #[.val (.ref ar), .val (.ref el)] [(.ref da), (.ref el), (.ref ar)]))) st4 ?_
  refine Wp.back (U' := (T4.setTop (mkF m 17 #[.val (.ref ar), .val (.ref el)] [(.ref ar), (.ref da), (.ref el), (.ref ar)]))) (fun t k => XS.aloadN X4.here hx rfl (hb hby i2d11_16) rfl rfl k) ?_
  obtain ⟨T5, X5, e5, st5⟩ := getF X4 hx hZ hown (host := "") (Or.inl (hw _ (List.mem_of_getElem? (i := 75) rfl))) Via.refl e4 f3_4 (g := (mkF m 17 #[.val (.ref ar), .val (.ref el)] [(.ref ar), (.ref da), (.ref el), (.ref ar)])) rfl rfl (hb hby i2d11_17)
  refine Wp.back (U' := (T5.setTop (mkF m 20 #[.val (.ref ar), .val (.ref el)] [(.int (2 : Int32)), (.ref da), (.ref el), (.ref ar)]))) st5 ?_
  obtain ⟨cq6, q6, q6'⟩ := f3_1.cell
  obtain ⟨_, _, ⟨T6, L6, k6, n6⟩, -, X6, ⟨Lc6, hQ6, l6, y6, z6⟩, st6⟩ := X5.privateBack hx (y := (⟨"java/util/ArrayList", "add", "(Ljava/lang/Object;[Ljava/lang/Object;I)V"⟩ : MethodName)) hown (mvT hZ (hw _ (List.mem_of_getElem? (i := 77) rfl))) (mvT hZ (hw _ (List.mem_of_getElem? (i := 78) rfl))) (mvT hZ (hw _ (List.mem_of_getElem? (i := 80) rfl))) (Cond.privateMethod_at (mvP hZ (hw _ (List.mem_of_getElem? (i := 79) rfl)) (args := #[]))) (mvT hZ (hw _ (List.mem_of_getElem? (i := 81) rfl))) (by decide) (backOf (W := 0) (rm_at2 l Z a0 hw [] ar el da ka t0 t1 h2 n0 f3_0 f3_1 f3_2 f3_3 f3_4 f3_5 H5 Fw2 g_ar g_da ne_el_ar ne_el_da ne_ar_da) hZ (hw _ (List.mem_of_getElem? (i := 81) rfl)) (hw _ (List.mem_of_getElem? (i := 28) rfl)) (by decide) (by decide)) (g := (mkF m 20 #[.val (.ref ar), .val (.ref el)] [(.int (2 : Int32)), (.ref da), (.ref el), (.ref ar)])) rfl (by rw [hml]; rfl) (Steps.refl _) (a := ar) (by rw [e5]; exact q6) q6' (argsL := [(.ref el), (.ref da), (.int (2 : Int32))]) (rest := []) (lenOf i2pd11_0 rfl) rfl (by show 2 * 0 + _ ≤ _; exact Nat.le_of_eq rfl) (hb hby i2d11_20) (fun _ _ => ⟨rfl, e5, (by decide : 0 + 0 ≤ _), (by decide : 0 + 0 ≤ _)⟩)
  dsimp only [Pt.U, Pt.locs, Pt.cells, Pt.slots] at X6 l6 y6 z6 st6 hQ6
  subst l6 y6 z6
  obtain ⟨rfl, N6q, K6, o6_0, o6_1, o6_2, o6_3, o6_4, o6_5⟩ := hQ6
  have f7_0 := Nat.le_trans f3_0 K6.1
  have f7_1 := f3_1.keep K6
  have f7_2 := f3_2.keep K6
  have f7_7 := f3_7.trans K6 (allS (Or.inl (List.mem_of_getElem? (i := 0) rfl)) (allS (Or.inl (List.mem_of_getElem? (i := 1) rfl)) all0))
  have N6 := Fr.app N2 N6q
  refine Wp.back (U' := (T6.setTop (mkF m 23 #[.val (.ref ar), .val (.ref el)] []))) (fun t k => st6.trans k) ?_
  refine Wp.back (U' := (T6.setTop (mkF m 24 #[.val (.ref ar), .val (.ref el)] [(.int (1 : Int32))]))) (fun t k => XT.iconstV X6.here hx rfl (1 : Int32) (hb hby i2d11_23) (by decide) k) ?_
  obtain ⟨fs, hr, hrun, hended, hW, hsame⟩ := X6.leave (v := (some (.int (1 : Int32)))) (fun h => by rw [hret] at h; cases h)
  refine Wp.done (retN X6 hx (t := .boolean) hret (by simp) (hb hby i2d11_24) hr) hrun hended ⟨_, _, rfl, ?_, ⟨_, rfl⟩, hW, hsame.mono (by decide) (by decide)⟩
  show Q_ad2 Z ar el da ka t0 t1 h0 n0 _ T6.heap _
  exact ⟨rfl, N6, f7_7, o6_0, o6_1, o6_2, o6_3, o6_4, o6_5⟩
def Q_pt (Z : State) (ar : Addr) (x1 : Addr) (p2 : Int32)  (h0 : Heap) (n0 : Nat) (v : Option Value) (h : Heap) (L : List Loc) : Prop := v = none ∧ Fr n0 L ∧ Keep h0 h [ar] ∧ Exa Z h ar "com/example/treewright/treewright/schema/AugmentTarget$Path" ∧ Fld Z h ar "com/example/treewright/treewright/schema/AugmentTarget$Path" "steps" "Ljava/util/List;" (.ref x1) ∧ Fld Z h ar "com/example/treewright/treewright/schema/AugmentTarget$Path" "ownFrom" "I" (.int p2)
theorem d16_0 : decode prog_18_method_1_code 0 = .ok (.aload_n 0, 1) := by decide +kernel
theorem d16_1 : decode prog_18_method_1_code 1 = .ok (.invokespecial 1, 3) := by decide +kernel
theorem d16_4 : decode prog_18_method_1_code 4 = .ok (.aload_n 0, 1) := by decide +kernel
theorem d16_5 : decode prog_18_method_1_code 5 = .ok (.aload_n 1, 1) := by decide +kernel
theorem d16_6 : decode prog_18_method_1_code 6 = .ok (.putfield 7, 3) := by decide +kernel
theorem d16_9 : decode prog_18_method_1_code 9 = .ok (.aload_n 0, 1) := by decide +kernel
theorem d16_10 : decode prog_18_method_1_code 10 = .ok (.iload_n 2, 1) := by decide +kernel
theorem d16_11 : decode prog_18_method_1_code 11 = .ok (.putfield 13, 3) := by decide +kernel
theorem d16_14 : decode prog_18_method_1_code 14 = .ok (.return_, 1) := by decide +kernel
theorem pd16_0 : parseMethodDescriptor "()V" = some ⟨[], none⟩ := by decide +kernel
theorem pn16 : plainName "com/example/treewright/treewright/schema/AugmentTarget$Path" = true := by first | (simp [plainName, overriddenIn]; done) | decide +kernel
theorem ef16 (m : MethodId) (x0 : Addr) (x1 : Addr) (x2 : Int32) : entryFrame m #[(.ref x0), (.ref x1), (.int x2)] 3 = mkF m 0 #[.val (.ref x0), .val (.ref x1), .val (.int x2)] [] := by first | (simp [entryFrame, mkF, argsToLocals, Value.category]; done) | rfl
set_option maxRecDepth 65536 in
set_option maxHeartbeats 40000000 in
theorem rm_pt (l : Launch) (Z : State) (a0 : Array Value) (hw : ∀ d ∈ tables_1, d.before a0 Z = true) (ws : List Jvm.Cond) (ar : Addr) (x1 : Addr) (p2 : Int32)  (h0 : Heap) (n0 : Nat) (Z0 : n0 ≤ h0.size) (H0 : Exa Z h0 ar "com/example/treewright/treewright/schema/AugmentTarget$Path") (H1 : Fld Z h0 ar "com/example/treewright/treewright/schema/AugmentTarget$Path" "steps" "Ljava/util/List;" .null) (H2 : Fld Z h0 ar "com/example/treewright/treewright/schema/AugmentTarget$Path" "ownFrom" "I" (.int (0 : Int32))) (g_ar : n0 ≤ ar) :
    MetFree l (⟨"com/example/treewright/treewright/schema/AugmentTarget$Path", "<init>", "(Ljava/util/List;I)V"⟩ : MethodName) (head1 (Jvm.Cond.code (⟨"com/example/treewright/treewright/schema/AugmentTarget$Path", "<init>", "(Ljava/util/List;I)V"⟩ : MethodName) prog_18_method_1_code 3 none :: ws) ({ frames := 2, cells := 0, slots := 0, locals := 24 } : Room)) (fun a U => a = #[(.ref ar), (.ref x1), (.int p2)] ∧ Z.Warmed39 U.vm ∧ U.heap = h0) (fun _ _ _ _ _ => True) (fun _ U o U' => ∃ v L, o = .returned v ∧ Q_pt Z ar x1 p2 h0 n0 v U'.heap L ∧ FrameEnd U o U' L ({ frames := 2, cells := 0, slots := 0, locals := 24 } : Room).cells ({ frames := 2, cells := 0, slots := 0, locals := 24 } : Room).slots) := by
  refine MetFree.of_bodySF (plainFor_of_name pn16) hisR ?_
  intro p e s m args below meth c s₁ Bd hml0 hP hK
  obtain ⟨rfl, hZ, hh⟩ := hP
  have hx := Bd.exec
  have hby := Bd.bytes
  have hret := Bd.returns
  have hlk := Bd.notSynchronized
  have hml : c.maxLocals = 3 := hml0
  have hown : s.vm.findClass "com/example/treewright/treewright/schema/AugmentTarget$Path" = some m.cls := findClass_of_methodNamed Bd.named
  have hnm := (name_of_methodNamed Bd.named Bd.method).1
  have X0 : Stand p l e ({ frames := 2, cells := 0, slots := 0, locals := 24 } : Room) s m #[(.ref ar), (.ref x1), (.int p2)] below meth c s₁ [] 0 0 := Stand.of_body Bd
  have e0 : s₁.heap = h0 := by rw [← hh, Bd.state]; rfl
  have N0 := Fr.nil n0
  show Wp p e below (fun o s₂ => ∃ v L, o = .returned v ∧ Q_pt Z ar x1 p2 h0 n0 v s₂.heap L ∧ FrameEnd s o s₂ L ({ frames := 2, cells := 0, slots := 0, locals := 24 } : Room).cells ({ frames := 2, cells := 0, slots := 0, locals := 24 } : Room).slots) _
  refine Wp.back (U' := (s₁.setTop (mkF m 0 #[.val (.ref ar), .val (.ref x1), .val (.int p2)] []))) (fun t k => castTop (ef16 m ar x1 p2) k) ?_
  refine Wp.back (U' := (s₁.setTop (mkF m 1 #[.val (.ref ar), .val (.ref x1), .val (.int p2)] [(.ref ar)]))) (fun t k => XS.aloadN X0.here hx rfl (hb hby d16_0) rfl rfl k) ?_
  obtain ⟨_, _, ⟨T1, L1, k1, n1⟩, -, X1, ⟨Lc1, hQ1, l1, y1, z1⟩, st1⟩ := X0.specialBack hx (y := (⟨"java/lang/Record", "<init>", "()V"⟩ : MethodName)) rfl hown (mvT hZ (hw _ (List.mem_of_getElem? (i := 105) rfl))) (mvT hZ (hw _ (List.mem_of_getElem? (i := 57) rfl))) (mvT hZ (hw _ (List.mem_of_getElem? (i := 60) rfl))) (by decide) (backOf (W := 0) (rm_rc l Z a0 hw [] ar  h0 n0 Z0 ) hZ (hw _ (List.mem_of_getElem? (i := 60) rfl)) (hw _ (List.mem_of_getElem? (i := 59) rfl)) (by decide) (by decide)) (g := (mkF m 1 #[.val (.ref ar), .val (.ref x1), .val (.int p2)] [(.ref ar)])) rfl (by rw [hml]; rfl) (Steps.refl _) (a := ar) (argsL := []) (rest := []) (lenOf pd16_0 rfl) rfl (by show 2 * 0 + _ ≤ _; exact Nat.le_of_eq rfl) (hb hby d16_1) (fun _ _ => ⟨rfl, e0, (by decide : 0 + 0 ≤ _), (by decide : 0 + 0 ≤ _)⟩)
  dsimp only [Pt.U, Pt.locs, Pt.cells, Pt.slots] at X1 l1 y1 z1 st1 hQ1
  subst l1 y1 z1
  obtain ⟨rfl, N1q, K1⟩ := hQ1
  have f2_0 := Nat.le_trans Z0 K1.1
  have f2_1 := H0.keep K1
  have f2_2 := H1.keep K1 nin0
  have f2_3 := H2.keep K1 nin0
  have f2_4 := (Keep.refl h0 [ar]).trans K1 all0
  have N1 := Fr.app N0 N1q
  refine Wp.back (U' := (T1.setTop (mkF m 4 #[.val (.ref ar), .val (.ref x1), .val (.int p2)] []))) (fun t k => st1.trans k) ?_
  refine Wp.back (U' := (T1.setTop (mkF m 6 #[.val (.ref ar), .val (.ref x1), .val (.int p2)] [(.ref x1), (.ref ar)]))) (fun t k => XS.aloadN X1.here hx rfl (hb hby d16_4) rfl rfl (XS.aloadN X1.here hx rfl (hb hby d16_5) rfl rfl k)) ?_
  obtain ⟨T3, h3, X3, e3, W3, st3⟩ := putF X1 hx hZ hown (host := "") (Or.inl (hw _ (List.mem_of_getElem? (i := 106) rfl))) Via.refl rfl f2_2 f2_1 (Or.inr ⟨(hw _ (List.mem_of_getElem? (i := 107) rfl)), rfl, hnm⟩) (hw _ (List.mem_of_getElem? (i := 100) rfl)) (ty := (.object "java/util/List")) (by decide) rfl rfl (g := (mkF m 6 #[.val (.ref ar), .val (.ref x1), .val (.int p2)] [(.ref x1), (.ref ar)])) rfl rfl (hb hby d16_6)
  have Fw3 := f2_2.same W3
  have f4_0 := Nat.le_trans f2_0 (Keep.of_wr W3).1
  have f4_1 := f2_1.wr W3
  have f4_2 := f2_3.other W3 (Or.inr (slot_ne (Or.inr (hw _ (List.mem_of_getElem? (i := 109) rfl))) (Or.inr (hw _ (List.mem_of_getElem? (i := 107) rfl))) (by decide) (t := .int) (t' := (.object "java/util/List")) (by decide) (by decide)))
  have f4_3 := f2_4.wr W3 (Or.inl (List.mem_of_getElem? (i := 0) rfl))
  have N3 := Fr.snoc X3 N1 g_ar
  refine Wp.back (U' := (T3.setTop (mkF m 9 #[.val (.ref ar), .val (.ref x1), .val (.int p2)] []))) st3 ?_
  refine Wp.back (U' := (T3.setTop (mkF m 11 #[.val (.ref ar), .val (.ref x1), .val (.int p2)] [(.int p2), (.ref ar)]))) (fun t k => XS.aloadN X3.here hx rfl (hb hby d16_9) rfl rfl (XS.iloadN X3.here hx rfl (hb hby d16_10) rfl k)) ?_
  obtain ⟨T5, h5, X5, e5, W5, st5⟩ := putF X3 hx hZ hown (host := "") (Or.inl (hw _ (List.mem_of_getElem? (i := 108) rfl))) Via.refl e3 f4_2 f4_1 (Or.inr ⟨(hw _ (List.mem_of_getElem? (i := 109) rfl)), rfl, hnm⟩) (hw _ (List.mem_of_getElem? (i := 100) rfl)) (ty := .int) (by decide) rfl rfl (g := (mkF m 11 #[.val (.ref ar), .val (.ref x1), .val (.int p2)] [(.int p2), (.ref ar)])) rfl rfl (hb hby d16_11)
  have Fw5 := f4_2.same W5
  have f6_0 := Nat.le_trans f4_0 (Keep.of_wr W5).1
  have f6_1 := f4_1.wr W5
  have f6_2 := f4_3.wr W5 (Or.inl (List.mem_of_getElem? (i := 0) rfl))
  have f6_3 := Fw3.other W5 (Or.inr (slot_ne (Or.inr (hw _ (List.mem_of_getElem? (i := 107) rfl))) (Or.inr (hw _ (List.mem_of_getElem? (i := 109) rfl))) (by decide) (t := (.object "java/util/List")) (t' := .int) (by decide) (by decide)))
  have N5 := Fr.snoc X5 N3 g_ar
  refine Wp.back (U' := (T5.setTop (mkF m 14 #[.val (.ref ar), .val (.ref x1), .val (.int p2)] []))) st5 ?_
  obtain ⟨fs, hr, hrun, hended, hW, hsame⟩ := X5.leave (v := none) (fun _ => rfl)
  refine Wp.done (X5.returnOut hx hret (hb hby d16_14) hr) hrun hended ⟨_, _, rfl, ?_, ⟨_, rfl⟩, hW, hsame.mono (by decide) (by decide)⟩
  show Q_pt Z ar x1 p2 h0 n0 _ T5.heap _
  rw [e5]
  exact ⟨rfl, N5, f6_2, f6_1, f6_3, Fw5⟩
def Q_so1 (Z : State) (ar : Addr) (ow : Int32) (h0 : Heap) (n0 : Nat) (v : Option Value) (h : Heap) (L : List Loc) : Prop := v = some (.int (1 : Int32)) ∧ Fr n0 L ∧ Keep h0 h []
theorem b1d17_0 : decode prog_18_method_2_code 0 = .ok (.aload_n 0, 1) := by decide +kernel
theorem b1d17_1 : decode prog_18_method_2_code 1 = .ok (.getfield 13, 3) := by decide +kernel
theorem b1d17_4 : decode prog_18_method_2_code 4 = .ok (.ifCond .ne 7, 3) := by decide +kernel
theorem b1d17_7 : decode prog_18_method_2_code 7 = .ok (.iconst 1, 1) := by decide +kernel
theorem b1d17_8 : decode prog_18_method_2_code 8 = .ok (.goto 4, 3) := by decide +kernel
theorem b1d17_12 : decode prog_18_method_2_code 12 = .ok (.ireturn, 1) := by decide +kernel
theorem b1pn17 : plainName "com/example/treewright/treewright/schema/AugmentTarget$Path" = true := by first | (simp [plainName, overriddenIn]; done) | decide +kernel
theorem b1ef17 (m : MethodId) (x0 : Addr) : entryFrame m #[(.ref x0)] 1 = mkF m 0 #[.val (.ref x0)] [] := by first | (simp [entryFrame, mkF, argsToLocals, Value.category]; done) | rfl
set_option maxRecDepth 65536 in
set_option maxHeartbeats 40000000 in
theorem rm_so1 (l : Launch) (Z : State) (a0 : Array Value) (hw : ∀ d ∈ tables_1, d.before a0 Z = true) (ws : List Jvm.Cond) (ar : Addr) (ow : Int32) (h0 : Heap) (n0 : Nat) (Z0 : n0 ≤ h0.size) (H0 : Fld Z h0 ar "com/example/treewright/treewright/schema/AugmentTarget$Path" "ownFrom" "I" (.int ow)) (h0w : ow = (0 : Int32)) :
    MetFree l (⟨"com/example/treewright/treewright/schema/AugmentTarget$Path", "startsOwn", "()Z"⟩ : MethodName) (head1 (Jvm.Cond.code (⟨"com/example/treewright/treewright/schema/AugmentTarget$Path", "startsOwn", "()Z"⟩ : MethodName) prog_18_method_2_code 1 (some .boolean) :: ws) ({ frames := 0, cells := 0, slots := 0, locals := 0 } : Room)) (fun a U => a = #[(.ref ar)] ∧ Z.Warmed39 U.vm ∧ U.heap = h0) (fun _ _ _ _ _ => True) (fun _ U o U' => ∃ v L, o = .returned v ∧ Q_so1 Z ar ow h0 n0 v U'.heap L ∧ FrameEnd U o U' L ({ frames := 0, cells := 0, slots := 0, locals := 0 } : Room).cells ({ frames := 0, cells := 0, slots := 0, locals := 0 } : Room).slots) := by
  refine MetFree.of_bodySF (plainFor_of_name b1pn17) hisR ?_
  intro p e s m args below meth c s₁ Bd hml0 hP hK
  obtain ⟨rfl, hZ, hh⟩ := hP
  have hx := Bd.exec
  have hby := Bd.bytes
  have hret := Bd.returns
  have hlk := Bd.notSynchronized
  have hml : c.maxLocals = 1 := hml0
  have hown : s.vm.findClass "com/example/treewright/treewright/schema/AugmentTarget$Path" = some m.cls := findClass_of_methodNamed Bd.named
  have hnm := (name_of_methodNamed Bd.named Bd.method).1
  have X0 : Stand p l e ({ frames := 0, cells := 0, slots := 0, locals := 0 } : Room) s m #[(.ref ar)] below meth c s₁ [] 0 0 := Stand.of_body Bd
  have e0 : s₁.heap = h0 := by rw [← hh, Bd.state]; rfl
  have N0 := Fr.nil n0
  show Wp p e below (fun o s₂ => ∃ v L, o = .returned v ∧ Q_so1 Z ar ow h0 n0 v s₂.heap L ∧ FrameEnd s o s₂ L ({ frames := 0, cells := 0, slots := 0, locals := 0 } : Room).cells ({ frames := 0, cells := 0, slots := 0, locals := 0 } : Room).slots) _
  refine Wp.back (U' := (s₁.setTop (mkF m 0 #[.val (.ref ar)] []))) (fun t k => castTop (b1ef17 m ar) k) ?_
  refine Wp.back (U' := (s₁.setTop (mkF m 1 #[.val (.ref ar)] [(.ref ar)]))) (fun t k => XS.aloadN X0.here hx rfl (hb hby b1d17_0) rfl rfl k) ?_
  obtain ⟨T1, X1, e1, st1⟩ := getF X0 hx hZ hown (host := "") (Or.inl (hw _ (List.mem_of_getElem? (i := 108) rfl))) Via.refl e0 H0 (g := (mkF m 1 #[.val (.ref ar)] [(.ref ar)])) rfl rfl (hb hby b1d17_1)
  refine Wp.back (U' := (T1.setTop (mkF m 4 #[.val (.ref ar)] [(.int ow)]))) st1 ?_
  refine Wp.back (U' := (T1.setTop (mkF m 12 #[.val (.ref ar)] [(.int (1 : Int32))]))) (fun t k => XS.ifNo X1.here hx rfl (hb hby b1d17_4) rfl ((if0 _ _).trans (teq h0w).2) (XT.iconstV X1.here hx rfl (1 : Int32) (hb hby b1d17_7) (by decide) (XS.goto X1.here hx rfl (pc0 := 8) (pc' := 12) rfl (hb hby b1d17_8) (by decide) (by decide) k))) ?_
  obtain ⟨fs, hr, hrun, hended, hW, hsame⟩ := X1.leave (v := (some (.int (1 : Int32)))) (fun h => by rw [hret] at h; cases h)
  refine Wp.done (retN X1 hx (t := .boolean) hret (by simp) (hb hby b1d17_12) hr) hrun hended ⟨_, _, rfl, ?_, ⟨_, rfl⟩, hW, hsame.mono (by decide) (by decide)⟩
  show Q_so1 Z ar ow h0 n0 _ T1.heap _
  rw [e1]
  exact ⟨rfl, N0, (Keep.refl h0 [])⟩
def Q_so0 (Z : State) (ar : Addr) (ow : Int32) (h0 : Heap) (n0 : Nat) (v : Option Value) (h : Heap) (L : List Loc) : Prop := v = some (.int (0 : Int32)) ∧ Fr n0 L ∧ Keep h0 h []
theorem b0d17_0 : decode prog_18_method_2_code 0 = .ok (.aload_n 0, 1) := by decide +kernel
theorem b0d17_1 : decode prog_18_method_2_code 1 = .ok (.getfield 13, 3) := by decide +kernel
theorem b0d17_4 : decode prog_18_method_2_code 4 = .ok (.ifCond .ne 7, 3) := by decide +kernel
theorem b0d17_11 : decode prog_18_method_2_code 11 = .ok (.iconst 0, 1) := by decide +kernel
theorem b0d17_12 : decode prog_18_method_2_code 12 = .ok (.ireturn, 1) := by decide +kernel
theorem b0pn17 : plainName "com/example/treewright/treewright/schema/AugmentTarget$Path" = true := by first | (simp [plainName, overriddenIn]; done) | decide +kernel
theorem b0ef17 (m : MethodId) (x0 : Addr) : entryFrame m #[(.ref x0)] 1 = mkF m 0 #[.val (.ref x0)] [] := by first | (simp [entryFrame, mkF, argsToLocals, Value.category]; done) | rfl
set_option maxRecDepth 65536 in
set_option maxHeartbeats 40000000 in
theorem rm_so0 (l : Launch) (Z : State) (a0 : Array Value) (hw : ∀ d ∈ tables_1, d.before a0 Z = true) (ws : List Jvm.Cond) (ar : Addr) (ow : Int32) (h0 : Heap) (n0 : Nat) (Z0 : n0 ≤ h0.size) (H0 : Fld Z h0 ar "com/example/treewright/treewright/schema/AugmentTarget$Path" "ownFrom" "I" (.int ow)) (h0w : ¬ ow = (0 : Int32)) :
    MetFree l (⟨"com/example/treewright/treewright/schema/AugmentTarget$Path", "startsOwn", "()Z"⟩ : MethodName) (head1 (Jvm.Cond.code (⟨"com/example/treewright/treewright/schema/AugmentTarget$Path", "startsOwn", "()Z"⟩ : MethodName) prog_18_method_2_code 1 (some .boolean) :: ws) ({ frames := 0, cells := 0, slots := 0, locals := 0 } : Room)) (fun a U => a = #[(.ref ar)] ∧ Z.Warmed39 U.vm ∧ U.heap = h0) (fun _ _ _ _ _ => True) (fun _ U o U' => ∃ v L, o = .returned v ∧ Q_so0 Z ar ow h0 n0 v U'.heap L ∧ FrameEnd U o U' L ({ frames := 0, cells := 0, slots := 0, locals := 0 } : Room).cells ({ frames := 0, cells := 0, slots := 0, locals := 0 } : Room).slots) := by
  refine MetFree.of_bodySF (plainFor_of_name b0pn17) hisR ?_
  intro p e s m args below meth c s₁ Bd hml0 hP hK
  obtain ⟨rfl, hZ, hh⟩ := hP
  have hx := Bd.exec
  have hby := Bd.bytes
  have hret := Bd.returns
  have hlk := Bd.notSynchronized
  have hml : c.maxLocals = 1 := hml0
  have hown : s.vm.findClass "com/example/treewright/treewright/schema/AugmentTarget$Path" = some m.cls := findClass_of_methodNamed Bd.named
  have hnm := (name_of_methodNamed Bd.named Bd.method).1
  have X0 : Stand p l e ({ frames := 0, cells := 0, slots := 0, locals := 0 } : Room) s m #[(.ref ar)] below meth c s₁ [] 0 0 := Stand.of_body Bd
  have e0 : s₁.heap = h0 := by rw [← hh, Bd.state]; rfl
  have N0 := Fr.nil n0
  show Wp p e below (fun o s₂ => ∃ v L, o = .returned v ∧ Q_so0 Z ar ow h0 n0 v s₂.heap L ∧ FrameEnd s o s₂ L ({ frames := 0, cells := 0, slots := 0, locals := 0 } : Room).cells ({ frames := 0, cells := 0, slots := 0, locals := 0 } : Room).slots) _
  refine Wp.back (U' := (s₁.setTop (mkF m 0 #[.val (.ref ar)] []))) (fun t k => castTop (b0ef17 m ar) k) ?_
  refine Wp.back (U' := (s₁.setTop (mkF m 1 #[.val (.ref ar)] [(.ref ar)]))) (fun t k => XS.aloadN X0.here hx rfl (hb hby b0d17_0) rfl rfl k) ?_
  obtain ⟨T1, X1, e1, st1⟩ := getF X0 hx hZ hown (host := "") (Or.inl (hw _ (List.mem_of_getElem? (i := 108) rfl))) Via.refl e0 H0 (g := (mkF m 1 #[.val (.ref ar)] [(.ref ar)])) rfl rfl (hb hby b0d17_1)
  refine Wp.back (U' := (T1.setTop (mkF m 4 #[.val (.ref ar)] [(.int ow)]))) st1 ?_
  refine Wp.back (U' := (T1.setTop (mkF m 12 #[.val (.ref ar)] [(.int (0 : Int32))]))) (fun t k => XS.ifYes X1.here hx rfl (pc0 := 4) (pc' := 11) rfl (hb hby b0d17_4) rfl ((if0 _ _).trans (feq h0w).2) (by decide) (by decide) (XT.iconstV X1.here hx rfl (0 : Int32) (hb hby b0d17_11) (by decide) k)) ?_
  obtain ⟨fs, hr, hrun, hended, hW, hsame⟩ := X1.leave (v := (some (.int (0 : Int32)))) (fun h => by rw [hret] at h; cases h)
  refine Wp.done (retN X1 hx (t := .boolean) hret (by simp) (hb hby b0d17_12) hr) hrun hended ⟨_, _, rfl, ?_, ⟨_, rfl⟩, hW, hsame.mono (by decide) (by decide)⟩
  show Q_so0 Z ar ow h0 n0 _ T1.heap _
  rw [e1]
  exact ⟨rfl, N0, (Keep.refl h0 [])⟩
def Q_of (Z : State) (ar : Addr) (ow : Int32) (h0 : Heap) (n0 : Nat) (v : Option Value) (h : Heap) (L : List Loc) : Prop := v = some (.int ow) ∧ Fr n0 L ∧ Keep h0 h []
theorem d18_0 : decode prog_18_method_8_code 0 = .ok (.aload_n 0, 1) := by decide +kernel
theorem d18_1 : decode prog_18_method_8_code 1 = .ok (.getfield 13, 3) := by decide +kernel
theorem d18_4 : decode prog_18_method_8_code 4 = .ok (.ireturn, 1) := by decide +kernel
theorem pn18 : plainName "com/example/treewright/treewright/schema/AugmentTarget$Path" = true := by first | (simp [plainName, overriddenIn]; done) | decide +kernel
theorem ef18 (m : MethodId) (x0 : Addr) : entryFrame m #[(.ref x0)] 1 = mkF m 0 #[.val (.ref x0)] [] := by first | (simp [entryFrame, mkF, argsToLocals, Value.category]; done) | rfl
set_option maxRecDepth 65536 in
set_option maxHeartbeats 40000000 in
theorem rm_of (l : Launch) (Z : State) (a0 : Array Value) (hw : ∀ d ∈ tables_1, d.before a0 Z = true) (ws : List Jvm.Cond) (ar : Addr) (ow : Int32) (h0 : Heap) (n0 : Nat) (Z0 : n0 ≤ h0.size) (H0 : Fld Z h0 ar "com/example/treewright/treewright/schema/AugmentTarget$Path" "ownFrom" "I" (.int ow)) :
    MetFree l (⟨"com/example/treewright/treewright/schema/AugmentTarget$Path", "ownFrom", "()I"⟩ : MethodName) (head1 (Jvm.Cond.code (⟨"com/example/treewright/treewright/schema/AugmentTarget$Path", "ownFrom", "()I"⟩ : MethodName) prog_18_method_8_code 1 (some .int) :: ws) ({ frames := 0, cells := 0, slots := 0, locals := 0 } : Room)) (fun a U => a = #[(.ref ar)] ∧ Z.Warmed39 U.vm ∧ U.heap = h0) (fun _ _ _ _ _ => True) (fun _ U o U' => ∃ v L, o = .returned v ∧ Q_of Z ar ow h0 n0 v U'.heap L ∧ FrameEnd U o U' L ({ frames := 0, cells := 0, slots := 0, locals := 0 } : Room).cells ({ frames := 0, cells := 0, slots := 0, locals := 0 } : Room).slots) := by
  refine MetFree.of_bodySF (plainFor_of_name pn18) hisR ?_
  intro p e s m args below meth c s₁ Bd hml0 hP hK
  obtain ⟨rfl, hZ, hh⟩ := hP
  have hx := Bd.exec
  have hby := Bd.bytes
  have hret := Bd.returns
  have hlk := Bd.notSynchronized
  have hml : c.maxLocals = 1 := hml0
  have hown : s.vm.findClass "com/example/treewright/treewright/schema/AugmentTarget$Path" = some m.cls := findClass_of_methodNamed Bd.named
  have hnm := (name_of_methodNamed Bd.named Bd.method).1
  have X0 : Stand p l e ({ frames := 0, cells := 0, slots := 0, locals := 0 } : Room) s m #[(.ref ar)] below meth c s₁ [] 0 0 := Stand.of_body Bd
  have e0 : s₁.heap = h0 := by rw [← hh, Bd.state]; rfl
  have N0 := Fr.nil n0
  show Wp p e below (fun o s₂ => ∃ v L, o = .returned v ∧ Q_of Z ar ow h0 n0 v s₂.heap L ∧ FrameEnd s o s₂ L ({ frames := 0, cells := 0, slots := 0, locals := 0 } : Room).cells ({ frames := 0, cells := 0, slots := 0, locals := 0 } : Room).slots) _
  refine Wp.back (U' := (s₁.setTop (mkF m 0 #[.val (.ref ar)] []))) (fun t k => castTop (ef18 m ar) k) ?_
  refine Wp.back (U' := (s₁.setTop (mkF m 1 #[.val (.ref ar)] [(.ref ar)]))) (fun t k => XS.aloadN X0.here hx rfl (hb hby d18_0) rfl rfl k) ?_
  obtain ⟨T1, X1, e1, st1⟩ := getF X0 hx hZ hown (host := "") (Or.inl (hw _ (List.mem_of_getElem? (i := 108) rfl))) Via.refl e0 H0 (g := (mkF m 1 #[.val (.ref ar)] [(.ref ar)])) rfl rfl (hb hby d18_1)
  refine Wp.back (U' := (T1.setTop (mkF m 4 #[.val (.ref ar)] [(.int ow)]))) st1 ?_
  obtain ⟨fs, hr, hrun, hended, hW, hsame⟩ := X1.leave (v := (some (.int ow))) (fun h => by rw [hret] at h; cases h)
  refine Wp.done (retI X1 hx hret (hb hby d18_4) hr) hrun hended ⟨_, _, rfl, ?_, ⟨_, rfl⟩, hW, hsame.mono (by decide) (by decide)⟩
  show Q_of Z ar ow h0 n0 _ T1.heap _
  rw [e1]
  exact ⟨rfl, N0, (Keep.refl h0 [])⟩
def Q_ss (Z : State) (ar : Addr) (sl : Addr) (h0 : Heap) (n0 : Nat) (v : Option Value) (h : Heap) (L : List Loc) : Prop := v = some (.ref sl) ∧ Fr n0 L ∧ Keep h0 h []
theorem d19_0 : decode prog_18_method_7_code 0 = .ok (.aload_n 0, 1) := by decide +kernel
theorem d19_1 : decode prog_18_method_7_code 1 = .ok (.getfield 7, 3) := by decide +kernel
theorem d19_4 : decode prog_18_method_7_code 4 = .ok (.areturn, 1) := by decide +kernel
theorem pn19 : plainName "com/example/treewright/treewright/schema/AugmentTarget$Path" = true := by first | (simp [plainName, overriddenIn]; done) | decide +kernel
theorem ef19 (m : MethodId) (x0 : Addr) : entryFrame m #[(.ref x0)] 1 = mkF m 0 #[.val (.ref x0)] [] := by first | (simp [entryFrame, mkF, argsToLocals, Value.category]; done) | rfl
set_option maxRecDepth 65536 in
set_option maxHeartbeats 40000000 in
theorem rm_ss (l : Launch) (Z : State) (a0 : Array Value) (hw : ∀ d ∈ tables_1, d.before a0 Z = true) (ws : List Jvm.Cond) (ar : Addr) (sl : Addr) (h0 : Heap) (n0 : Nat) (Z0 : n0 ≤ h0.size) (H0 : Fld Z h0 ar "com/example/treewright/treewright/schema/AugmentTarget$Path" "steps" "Ljava/util/List;" (.ref sl)) :
    MetFree l (⟨"com/example/treewright/treewright/schema/AugmentTarget$Path", "steps", "()Ljava/util/List;"⟩ : MethodName) (head1 (Jvm.Cond.code (⟨"com/example/treewright/treewright/schema/AugmentTarget$Path", "steps", "()Ljava/util/List;"⟩ : MethodName) prog_18_method_7_code 1 (some (.object "java/util/List")) :: ws) ({ frames := 0, cells := 0, slots := 0, locals := 0 } : Room)) (fun a U => a = #[(.ref ar)] ∧ Z.Warmed39 U.vm ∧ U.heap = h0) (fun _ _ _ _ _ => True) (fun _ U o U' => ∃ v L, o = .returned v ∧ Q_ss Z ar sl h0 n0 v U'.heap L ∧ FrameEnd U o U' L ({ frames := 0, cells := 0, slots := 0, locals := 0 } : Room).cells ({ frames := 0, cells := 0, slots := 0, locals := 0 } : Room).slots) := by
  refine MetFree.of_bodySF (plainFor_of_name pn19) hisR ?_
  intro p e s m args below meth c s₁ Bd hml0 hP hK
  obtain ⟨rfl, hZ, hh⟩ := hP
  have hx := Bd.exec
  have hby := Bd.bytes
  have hret := Bd.returns
  have hlk := Bd.notSynchronized
  have hml : c.maxLocals = 1 := hml0
  have hown : s.vm.findClass "com/example/treewright/treewright/schema/AugmentTarget$Path" = some m.cls := findClass_of_methodNamed Bd.named
  have hnm := (name_of_methodNamed Bd.named Bd.method).1
  have X0 : Stand p l e ({ frames := 0, cells := 0, slots := 0, locals := 0 } : Room) s m #[(.ref ar)] below meth c s₁ [] 0 0 := Stand.of_body Bd
  have e0 : s₁.heap = h0 := by rw [← hh, Bd.state]; rfl
  have N0 := Fr.nil n0
  show Wp p e below (fun o s₂ => ∃ v L, o = .returned v ∧ Q_ss Z ar sl h0 n0 v s₂.heap L ∧ FrameEnd s o s₂ L ({ frames := 0, cells := 0, slots := 0, locals := 0 } : Room).cells ({ frames := 0, cells := 0, slots := 0, locals := 0 } : Room).slots) _
  refine Wp.back (U' := (s₁.setTop (mkF m 0 #[.val (.ref ar)] []))) (fun t k => castTop (ef19 m ar) k) ?_
  refine Wp.back (U' := (s₁.setTop (mkF m 1 #[.val (.ref ar)] [(.ref ar)]))) (fun t k => XS.aloadN X0.here hx rfl (hb hby d19_0) rfl rfl k) ?_
  obtain ⟨T1, X1, e1, st1⟩ := getF X0 hx hZ hown (host := "") (Or.inl (hw _ (List.mem_of_getElem? (i := 106) rfl))) Via.refl e0 H0 (g := (mkF m 1 #[.val (.ref ar)] [(.ref ar)])) rfl rfl (hb hby d19_1)
  refine Wp.back (U' := (T1.setTop (mkF m 4 #[.val (.ref ar)] [(.ref sl)]))) st1 ?_
  obtain ⟨fs, hr, hrun, hended, hW, hsame⟩ := X1.leave (v := (some (.ref sl))) (fun h => by rw [hret] at h; cases h)
  refine Wp.done (retOut X1 hx hret rfl (Or.inr (Or.inr (Or.inr (Or.inr ⟨rfl, rfl, rfl⟩)))) (hb hby d19_4) hr) hrun hended ⟨_, _, rfl, ?_, ⟨_, rfl⟩, hW, hsame.mono (by decide) (by decide)⟩
  show Q_ss Z ar sl h0 n0 _ T1.heap _
  rw [e1]
  exact ⟨rfl, N0, (Keep.refl h0 [])⟩
def Q_sz0 (Z : State) (ar : Addr)  (h0 : Heap) (n0 : Nat) (v : Option Value) (h : Heap) (L : List Loc) : Prop := v = some (.int (0 : Int32)) ∧ Fr n0 L ∧ Keep h0 h []
theorem i0d20_0 : decode jdk_38_method_8_code 0 = .ok (.aload_n 0, 1) := by decide +kernel
theorem i0d20_1 : decode jdk_38_method_8_code 1 = .ok (.getfield 48, 3) := by decide +kernel
theorem i0d20_4 : decode jdk_38_method_8_code 4 = .ok (.ireturn, 1) := by decide +kernel
theorem i0pn20 : plainName "java/util/ArrayList" = true := by first | (simp [plainName, overriddenIn]; done) | decide +kernel
theorem i0ef20 (m : MethodId) (x0 : Addr) : entryFrame m #[(.ref x0)] 1 = mkF m 0 #[.val (.ref x0)] [] := by first | (simp [entryFrame, mkF, argsToLocals, Value.category]; done) | rfl
set_option maxRecDepth 65536 in
set_option maxHeartbeats 40000000 in
theorem rm_sz0 (l : Launch) (Z : State) (a0 : Array Value) (hw : ∀ d ∈ tables_1, d.before a0 Z = true) (ws : List Jvm.Cond) (ar : Addr)  (h0 : Heap) (n0 : Nat) (Z0 : n0 ≤ h0.size) (H0 : Fld Z h0 ar "java/util/ArrayList" "size" "I" (.int (0 : Int32))) :
    MetFree l (⟨"java/util/ArrayList", "size", "()I"⟩ : MethodName) (head1 (Jvm.Cond.code (⟨"java/util/ArrayList", "size", "()I"⟩ : MethodName) jdk_38_method_8_code 1 (some .int) :: ws) ({ frames := 0, cells := 0, slots := 0, locals := 0 } : Room)) (fun a U => a = #[(.ref ar)] ∧ Z.Warmed39 U.vm ∧ U.heap = h0) (fun _ _ _ _ _ => True) (fun _ U o U' => ∃ v L, o = .returned v ∧ Q_sz0 Z ar h0 n0 v U'.heap L ∧ FrameEnd U o U' L ({ frames := 0, cells := 0, slots := 0, locals := 0 } : Room).cells ({ frames := 0, cells := 0, slots := 0, locals := 0 } : Room).slots) := by
  refine MetFree.of_bodySF (plainFor_of_name i0pn20) hisR ?_
  intro p e s m args below meth c s₁ Bd hml0 hP hK
  obtain ⟨rfl, hZ, hh⟩ := hP
  have hx := Bd.exec
  have hby := Bd.bytes
  have hret := Bd.returns
  have hlk := Bd.notSynchronized
  have hml : c.maxLocals = 1 := hml0
  have hown : s.vm.findClass "java/util/ArrayList" = some m.cls := findClass_of_methodNamed Bd.named
  have hnm := (name_of_methodNamed Bd.named Bd.method).1
  have X0 : Stand p l e ({ frames := 0, cells := 0, slots := 0, locals := 0 } : Room) s m #[(.ref ar)] below meth c s₁ [] 0 0 := Stand.of_body Bd
  have e0 : s₁.heap = h0 := by rw [← hh, Bd.state]; rfl
  have N0 := Fr.nil n0
  show Wp p e below (fun o s₂ => ∃ v L, o = .returned v ∧ Q_sz0 Z ar h0 n0 v s₂.heap L ∧ FrameEnd s o s₂ L ({ frames := 0, cells := 0, slots := 0, locals := 0 } : Room).cells ({ frames := 0, cells := 0, slots := 0, locals := 0 } : Room).slots) _
  refine Wp.back (U' := (s₁.setTop (mkF m 0 #[.val (.ref ar)] []))) (fun t k => castTop (i0ef20 m ar) k) ?_
  refine Wp.back (U' := (s₁.setTop (mkF m 1 #[.val (.ref ar)] [(.ref ar)]))) (fun t k => XS.aloadN X0.here hx rfl (hb hby i0d20_0) rfl rfl k) ?_
  obtain ⟨T1, X1, e1, st1⟩ := getF X0 hx hZ hown (host := "") (Or.inl (hw _ (List.mem_of_getElem? (i := 75) rfl))) Via.refl e0 H0 (g := (mkF m 1 #[.val (.ref ar)] [(.ref ar)])) rfl rfl (hb hby i0d20_1)
  refine Wp.back (U' := (T1.setTop (mkF m 4 #[.val (.ref ar)] [(.int (0 : Int32))]))) st1 ?_
  obtain ⟨fs, hr, hrun, hended, hW, hsame⟩ := X1.leave (v := (some (.int (0 : Int32)))) (fun h => by rw [hret] at h; cases h)
  refine Wp.done (retI X1 hx hret (hb hby i0d20_4) hr) hrun hended ⟨_, _, rfl, ?_, ⟨_, rfl⟩, hW, hsame.mono (by decide) (by decide)⟩
  show Q_sz0 Z ar h0 n0 _ T1.heap _
  rw [e1]
  exact ⟨rfl, N0, (Keep.refl h0 [])⟩
def Q_sz1 (Z : State) (ar : Addr)  (h0 : Heap) (n0 : Nat) (v : Option Value) (h : Heap) (L : List Loc) : Prop := v = some (.int (1 : Int32)) ∧ Fr n0 L ∧ Keep h0 h []
theorem i1d20_0 : decode jdk_38_method_8_code 0 = .ok (.aload_n 0, 1) := by decide +kernel
theorem i1d20_1 : decode jdk_38_method_8_code 1 = .ok (.getfield 48, 3) := by decide +kernel
theorem i1d20_4 : decode jdk_38_method_8_code 4 = .ok (.ireturn, 1) := by decide +kernel
theorem i1pn20 : plainName "java/util/ArrayList" = true := by first | (simp [plainName, overriddenIn]; done) | decide +kernel
theorem i1ef20 (m : MethodId) (x0 : Addr) : entryFrame m #[(.ref x0)] 1 = mkF m 0 #[.val (.ref x0)] [] := by first | (simp [entryFrame, mkF, argsToLocals, Value.category]; done) | rfl
set_option maxRecDepth 65536 in
set_option maxHeartbeats 40000000 in
theorem rm_sz1 (l : Launch) (Z : State) (a0 : Array Value) (hw : ∀ d ∈ tables_1, d.before a0 Z = true) (ws : List Jvm.Cond) (ar : Addr)  (h0 : Heap) (n0 : Nat) (Z0 : n0 ≤ h0.size) (H0 : Fld Z h0 ar "java/util/ArrayList" "size" "I" (.int (1 : Int32))) :
    MetFree l (⟨"java/util/ArrayList", "size", "()I"⟩ : MethodName) (head1 (Jvm.Cond.code (⟨"java/util/ArrayList", "size", "()I"⟩ : MethodName) jdk_38_method_8_code 1 (some .int) :: ws) ({ frames := 0, cells := 0, slots := 0, locals := 0 } : Room)) (fun a U => a = #[(.ref ar)] ∧ Z.Warmed39 U.vm ∧ U.heap = h0) (fun _ _ _ _ _ => True) (fun _ U o U' => ∃ v L, o = .returned v ∧ Q_sz1 Z ar h0 n0 v U'.heap L ∧ FrameEnd U o U' L ({ frames := 0, cells := 0, slots := 0, locals := 0 } : Room).cells ({ frames := 0, cells := 0, slots := 0, locals := 0 } : Room).slots) := by
  refine MetFree.of_bodySF (plainFor_of_name i1pn20) hisR ?_
  intro p e s m args below meth c s₁ Bd hml0 hP hK
  obtain ⟨rfl, hZ, hh⟩ := hP
  have hx := Bd.exec
  have hby := Bd.bytes
  have hret := Bd.returns
  have hlk := Bd.notSynchronized
  have hml : c.maxLocals = 1 := hml0
  have hown : s.vm.findClass "java/util/ArrayList" = some m.cls := findClass_of_methodNamed Bd.named
  have hnm := (name_of_methodNamed Bd.named Bd.method).1
  have X0 : Stand p l e ({ frames := 0, cells := 0, slots := 0, locals := 0 } : Room) s m #[(.ref ar)] below meth c s₁ [] 0 0 := Stand.of_body Bd
  have e0 : s₁.heap = h0 := by rw [← hh, Bd.state]; rfl
  have N0 := Fr.nil n0
  show Wp p e below (fun o s₂ => ∃ v L, o = .returned v ∧ Q_sz1 Z ar h0 n0 v s₂.heap L ∧ FrameEnd s o s₂ L ({ frames := 0, cells := 0, slots := 0, locals := 0 } : Room).cells ({ frames := 0, cells := 0, slots := 0, locals := 0 } : Room).slots) _
  refine Wp.back (U' := (s₁.setTop (mkF m 0 #[.val (.ref ar)] []))) (fun t k => castTop (i1ef20 m ar) k) ?_
  refine Wp.back (U' := (s₁.setTop (mkF m 1 #[.val (.ref ar)] [(.ref ar)]))) (fun t k => XS.aloadN X0.here hx rfl (hb hby i1d20_0) rfl rfl k) ?_
  obtain ⟨T1, X1, e1, st1⟩ := getF X0 hx hZ hown (host := "") (Or.inl (hw _ (List.mem_of_getElem? (i := 75) rfl))) Via.refl e0 H0 (g := (mkF m 1 #[.val (.ref ar)] [(.ref ar)])) rfl rfl (hb hby i1d20_1)
  refine Wp.back (U' := (T1.setTop (mkF m 4 #[.val (.ref ar)] [(.int (1 : Int32))]))) st1 ?_
  obtain ⟨fs, hr, hrun, hended, hW, hsame⟩ := X1.leave (v := (some (.int (1 : Int32)))) (fun h => by rw [hret] at h; cases h)
  refine Wp.done (retI X1 hx hret (hb hby i1d20_4) hr) hrun hended ⟨_, _, rfl, ?_, ⟨_, rfl⟩, hW, hsame.mono (by decide) (by decide)⟩
  show Q_sz1 Z ar h0 n0 _ T1.heap _
  rw [e1]
  exact ⟨rfl, N0, (Keep.refl h0 [])⟩
def Q_sz2 (Z : State) (ar : Addr)  (h0 : Heap) (n0 : Nat) (v : Option Value) (h : Heap) (L : List Loc) : Prop := v = some (.int (2 : Int32)) ∧ Fr n0 L ∧ Keep h0 h []
theorem i2d20_0 : decode jdk_38_method_8_code 0 = .ok (.aload_n 0, 1) := by decide +kernel
theorem i2d20_1 : decode jdk_38_method_8_code 1 = .ok (.getfield 48, 3) := by decide +kernel
theorem i2d20_4 : decode jdk_38_method_8_code 4 = .ok (.ireturn, 1) := by decide +kernel
theorem i2pn20 : plainName "java/util/ArrayList" = true := by first | (simp [plainName, overriddenIn]; done) | decide +kernel
theorem i2ef20 (m : MethodId) (x0 : Addr) : entryFrame m #[(.ref x0)] 1 = mkF m 0 #[.val (.ref x0)] [] := by first | (simp [entryFrame, mkF, argsToLocals, Value.category]; done) | rfl
set_option maxRecDepth 65536 in
set_option maxHeartbeats 40000000 in
theorem rm_sz2 (l : Launch) (Z : State) (a0 : Array Value) (hw : ∀ d ∈ tables_1, d.before a0 Z = true) (ws : List Jvm.Cond) (ar : Addr)  (h0 : Heap) (n0 : Nat) (Z0 : n0 ≤ h0.size) (H0 : Fld Z h0 ar "java/util/ArrayList" "size" "I" (.int (2 : Int32))) :
    MetFree l (⟨"java/util/ArrayList", "size", "()I"⟩ : MethodName) (head1 (Jvm.Cond.code (⟨"java/util/ArrayList", "size", "()I"⟩ : MethodName) jdk_38_method_8_code 1 (some .int) :: ws) ({ frames := 0, cells := 0, slots := 0, locals := 0 } : Room)) (fun a U => a = #[(.ref ar)] ∧ Z.Warmed39 U.vm ∧ U.heap = h0) (fun _ _ _ _ _ => True) (fun _ U o U' => ∃ v L, o = .returned v ∧ Q_sz2 Z ar h0 n0 v U'.heap L ∧ FrameEnd U o U' L ({ frames := 0, cells := 0, slots := 0, locals := 0 } : Room).cells ({ frames := 0, cells := 0, slots := 0, locals := 0 } : Room).slots) := by
  refine MetFree.of_bodySF (plainFor_of_name i2pn20) hisR ?_
  intro p e s m args below meth c s₁ Bd hml0 hP hK
  obtain ⟨rfl, hZ, hh⟩ := hP
  have hx := Bd.exec
  have hby := Bd.bytes
  have hret := Bd.returns
  have hlk := Bd.notSynchronized
  have hml : c.maxLocals = 1 := hml0
  have hown : s.vm.findClass "java/util/ArrayList" = some m.cls := findClass_of_methodNamed Bd.named
  have hnm := (name_of_methodNamed Bd.named Bd.method).1
  have X0 : Stand p l e ({ frames := 0, cells := 0, slots := 0, locals := 0 } : Room) s m #[(.ref ar)] below meth c s₁ [] 0 0 := Stand.of_body Bd
  have e0 : s₁.heap = h0 := by rw [← hh, Bd.state]; rfl
  have N0 := Fr.nil n0
  show Wp p e below (fun o s₂ => ∃ v L, o = .returned v ∧ Q_sz2 Z ar h0 n0 v s₂.heap L ∧ FrameEnd s o s₂ L ({ frames := 0, cells := 0, slots := 0, locals := 0 } : Room).cells ({ frames := 0, cells := 0, slots := 0, locals := 0 } : Room).slots) _
  refine Wp.back (U' := (s₁.setTop (mkF m 0 #[.val (.ref ar)] []))) (fun t k => castTop (i2ef20 m ar) k) ?_
  refine Wp.back (U' := (s₁.setTop (mkF m 1 #[.val (.ref ar)] [(.ref ar)]))) (fun t k => XS.aloadN X0.here hx rfl (hb hby i2d20_0) rfl rfl k) ?_
  obtain ⟨T1, X1, e1, st1⟩ := getF X0 hx hZ hown (host := "") (Or.inl (hw _ (List.mem_of_getElem? (i := 75) rfl))) Via.refl e0 H0 (g := (mkF m 1 #[.val (.ref ar)] [(.ref ar)])) rfl rfl (hb hby i2d20_1)
  refine Wp.back (U' := (T1.setTop (mkF m 4 #[.val (.ref ar)] [(.int (2 : Int32))]))) st1 ?_
  obtain ⟨fs, hr, hrun, hended, hW, hsame⟩ := X1.leave (v := (some (.int (2 : Int32)))) (fun h => by rw [hret] at h; cases h)
  refine Wp.done (retI X1 hx hret (hb hby i2d20_4) hr) hrun hended ⟨_, _, rfl, ?_, ⟨_, rfl⟩, hW, hsame.mono (by decide) (by decide)⟩
  show Q_sz2 Z ar h0 n0 _ T1.heap _
  rw [e1]
  exact ⟨rfl, N0, (Keep.refl h0 [])⟩
def Q_sz3 (Z : State) (ar : Addr)  (h0 : Heap) (n0 : Nat) (v : Option Value) (h : Heap) (L : List Loc) : Prop := v = some (.int (3 : Int32)) ∧ Fr n0 L ∧ Keep h0 h []
theorem i3d20_0 : decode jdk_38_method_8_code 0 = .ok (.aload_n 0, 1) := by decide +kernel
theorem i3d20_1 : decode jdk_38_method_8_code 1 = .ok (.getfield 48, 3) := by decide +kernel
theorem i3d20_4 : decode jdk_38_method_8_code 4 = .ok (.ireturn, 1) := by decide +kernel
theorem i3pn20 : plainName "java/util/ArrayList" = true := by first | (simp [plainName, overriddenIn]; done) | decide +kernel
theorem i3ef20 (m : MethodId) (x0 : Addr) : entryFrame m #[(.ref x0)] 1 = mkF m 0 #[.val (.ref x0)] [] := by first | (simp [entryFrame, mkF, argsToLocals, Value.category]; done) | rfl
set_option maxRecDepth 65536 in
set_option maxHeartbeats 40000000 in
theorem rm_sz3 (l : Launch) (Z : State) (a0 : Array Value) (hw : ∀ d ∈ tables_1, d.before a0 Z = true) (ws : List Jvm.Cond) (ar : Addr)  (h0 : Heap) (n0 : Nat) (Z0 : n0 ≤ h0.size) (H0 : Fld Z h0 ar "java/util/ArrayList" "size" "I" (.int (3 : Int32))) :
    MetFree l (⟨"java/util/ArrayList", "size", "()I"⟩ : MethodName) (head1 (Jvm.Cond.code (⟨"java/util/ArrayList", "size", "()I"⟩ : MethodName) jdk_38_method_8_code 1 (some .int) :: ws) ({ frames := 0, cells := 0, slots := 0, locals := 0 } : Room)) (fun a U => a = #[(.ref ar)] ∧ Z.Warmed39 U.vm ∧ U.heap = h0) (fun _ _ _ _ _ => True) (fun _ U o U' => ∃ v L, o = .returned v ∧ Q_sz3 Z ar h0 n0 v U'.heap L ∧ FrameEnd U o U' L ({ frames := 0, cells := 0, slots := 0, locals := 0 } : Room).cells ({ frames := 0, cells := 0, slots := 0, locals := 0 } : Room).slots) := by
  refine MetFree.of_bodySF (plainFor_of_name i3pn20) hisR ?_
  intro p e s m args below meth c s₁ Bd hml0 hP hK
  obtain ⟨rfl, hZ, hh⟩ := hP
  have hx := Bd.exec
  have hby := Bd.bytes
  have hret := Bd.returns
  have hlk := Bd.notSynchronized
  have hml : c.maxLocals = 1 := hml0
  have hown : s.vm.findClass "java/util/ArrayList" = some m.cls := findClass_of_methodNamed Bd.named
  have hnm := (name_of_methodNamed Bd.named Bd.method).1
  have X0 : Stand p l e ({ frames := 0, cells := 0, slots := 0, locals := 0 } : Room) s m #[(.ref ar)] below meth c s₁ [] 0 0 := Stand.of_body Bd
  have e0 : s₁.heap = h0 := by rw [← hh, Bd.state]; rfl
  have N0 := Fr.nil n0
  show Wp p e below (fun o s₂ => ∃ v L, o = .returned v ∧ Q_sz3 Z ar h0 n0 v s₂.heap L ∧ FrameEnd s o s₂ L ({ frames := 0, cells := 0, slots := 0, locals := 0 } : Room).cells ({ frames := 0, cells := 0, slots := 0, locals := 0 } : Room).slots) _
  refine Wp.back (U' := (s₁.setTop (mkF m 0 #[.val (.ref ar)] []))) (fun t k => castTop (i3ef20 m ar) k) ?_
  refine Wp.back (U' := (s₁.setTop (mkF m 1 #[.val (.ref ar)] [(.ref ar)]))) (fun t k => XS.aloadN X0.here hx rfl (hb hby i3d20_0) rfl rfl k) ?_
  obtain ⟨T1, X1, e1, st1⟩ := getF X0 hx hZ hown (host := "") (Or.inl (hw _ (List.mem_of_getElem? (i := 75) rfl))) Via.refl e0 H0 (g := (mkF m 1 #[.val (.ref ar)] [(.ref ar)])) rfl rfl (hb hby i3d20_1)
  refine Wp.back (U' := (T1.setTop (mkF m 4 #[.val (.ref ar)] [(.int (3 : Int32))]))) st1 ?_
  obtain ⟨fs, hr, hrun, hended, hW, hsame⟩ := X1.leave (v := (some (.int (3 : Int32)))) (fun h => by rw [hret] at h; cases h)
  refine Wp.done (retI X1 hx hret (hb hby i3d20_4) hr) hrun hended ⟨_, _, rfl, ?_, ⟨_, rfl⟩, hW, hsame.mono (by decide) (by decide)⟩
  show Q_sz3 Z ar h0 n0 _ T1.heap _
  rw [e1]
  exact ⟨rfl, N0, (Keep.refl h0 [])⟩
theorem own_n (p1 : Int32) : (p1 &&& (3 : Int32)) = (0 : Int32) ∨ (p1 &&& (3 : Int32)) = (1 : Int32) ∨ (p1 &&& (3 : Int32)) = (2 : Int32) ∨ (p1 &&& (3 : Int32)) = (3 : Int32) := by
  have h1 := c_mask p1 3 2 (by decide) (by decide)
  have e0 : (0 : Int32).toInt = 0 := by decide
  have e1 : (1 : Int32).toInt = 1 := by decide
  have e2 : (2 : Int32).toInt = 2 := by decide
  have e3 : (3 : Int32).toInt = 3 := by decide
  simp only [← Int32.toInt_inj, e0, e1, e2, e3]
  omega
theorem own_255 (x : Int32) : ¬ (255 : Int32) < ((x &&& (255 : Int32))).toUInt32.toUInt16.toUInt32.toInt32 := by
  rw [i2c_mask]
  have h1 := c_mask x 255 8 (by decide) (by decide)
  have e : (255 : Int32).toInt = 255 := by decide
  rw [Int32.lt_iff_toInt_lt]
  omega
theorem own_ar0 {s : State} {args : Array Value} {t : Term} {a : Addr} {cl : Cell} {ty : FieldType} (hf : Fit s) (A : Arr s s.heap a cl ty) (ev : t.eval args s none [] s = some (.ref a)) (hl : (Cond.eq (.length t) (.int 0)).value args s none s [] = some true) : Arv s s.heap a cl.cls ty (0 : Int32) [] .null := by
  have ha : s.arrayAt? a = some cl := Arr.fin (Vm.Alike.refl _) A
  by_cases h : cl.slots.size < 2 ^ 31
  · have e1 := len_f (o := none) (first := s) (idx := []) (args := args) ev ha h
    have e2 : (Term.int 0).eval args s none [] s = some (.int 0) := rfl
    exact Arv.start hf A h (gotT (Cond.eq_ints e1 e2) hl) (by decide) rfl trivial
  · exfalso
    simp [Cond.value, Term.eval, ev, ha, h] at hl
theorem pd0_0 : parseMethodDescriptor "(C)Ljava/lang/String;" = some ⟨[.char], some (.object "java/lang/String")⟩ := by decide +kernel
theorem pd0_1 : parseMethodDescriptor "()V" = some ⟨[], none⟩ := by decide +kernel
theorem pd0_2 : parseMethodDescriptor "(Ljava/util/List;I)V" = some ⟨[(.object "java/util/List"), .int], none⟩ := by decide +kernel
theorem pd0_3 : parseMethodDescriptor "()Z" = some ⟨[], some .boolean⟩ := by decide +kernel
theorem pd0_4 : parseMethodDescriptor "()I" = some ⟨[], some .int⟩ := by decide +kernel
theorem pd0_5 : parseMethodDescriptor "()Ljava/util/List;" = some ⟨[], some (.object "java/util/List")⟩ := by decide +kernel
theorem pd0_6 : parseMethodDescriptor "(Ljava/lang/String;Ljava/lang/String;Ljava/lang/String;)V" = some ⟨[(.object "java/lang/String"), (.object "java/lang/String"), (.object "java/lang/String")], none⟩ := by decide +kernel
theorem pd0_7 : parseMethodDescriptor "(Ljava/lang/Object;)Z" = some ⟨[(.object "java/lang/Object")], some .boolean⟩ := by decide +kernel
theorem pn0 : plainName "com/example/treewright/treewright/schema/PathStartsOwnPinLaw" = true := by first | (simp [plainName, overriddenIn]; done) | decide +kernel
theorem ef0 (m : MethodId) (x0 : Int32) (x1 : Int32) (x2 : Int32) : entryFrame m #[(.int x0), (.int x1), (.int x2)] maxLocals = mkF m 0 #[.val (.int x0), .val (.int x1), .val (.int x2), .unset, .unset, .unset, .unset, .unset] [] := by first | (simp [entryFrame, mkF, argsToLocals, Value.category, maxLocals]; done) | rfl
set_option maxRecDepth 65536 in
set_option maxHeartbeats 40000000 in
theorem rm_law (l : Launch) (Z : State) (a0 : Array Value) (hw : ∀ d ∈ tables_1, d.before a0 Z = true) (ws : List Jvm.Cond) (p0 : Int32) (p1 : Int32) (p2 : Int32) (cs : Int32) (de : Addr) (ke : ClassId) (h0 : Heap) (n0 : Nat) (Z0 : n0 ≤ h0.size) (PC : Sta Z h0 "java/lang/String" "COMPACT_STRINGS" "Z" (.int cs)) (hcs : ¬ cs = (0 : Int32)) (PD : Sta Z h0 "java/util/ArrayList" "DEFAULTCAPACITY_EMPTY_ELEMENTDATA" "[Ljava/lang/Object;" (.ref de)) (PA : Arv Z h0 de ke (.object "java/lang/Object") (0 : Int32) [] .null) :
    MetFree l x (head1 (Jvm.Cond.code x code maxLocals ret :: ws) room_1) (fun a U => a = #[(.int p0), (.int p1), (.int p2)] ∧ Z.Warmed39 U.vm ∧ U.heap = h0) (fun _ _ _ _ _ => True) (fun _ U o U' => ∃ v L, o = .returned v ∧ QL n0 v U'.heap L ∧ FrameEnd U o U' L 24 128) := by
  refine MetFree.of_bodySF (plainFor_of_name pn0) hisR ?_
  intro p e s m args below meth c s₁ Bd hml0 hP hK
  obtain ⟨rfl, hZ, hh⟩ := hP
  have hx := Bd.exec
  have hby := Bd.bytes
  have hret := Bd.returns
  have hlk := Bd.notSynchronized
  have hml : c.maxLocals = 8 := hml0
  have hown : s.vm.findClass "com/example/treewright/treewright/schema/PathStartsOwnPinLaw" = some m.cls := findClass_of_methodNamed Bd.named
  have hnm := (name_of_methodNamed Bd.named Bd.method).1
  have X0 : Stand p l e room_1 s m #[(.int p0), (.int p1), (.int p2)] below meth c s₁ [] 0 0 := Stand.of_body Bd
  have e0 : s₁.heap = h0 := by rw [← hh, Bd.state]; rfl
  have N0 := Fr.nil n0
  show Wp p e below (fun o s₂ => ∃ v L, o = .returned v ∧ QL n0 v s₂.heap L ∧ FrameEnd s o s₂ L 24 128) _
  refine Wp.back (U' := (s₁.setTop (mkF m 0 #[.val (.int p0), .val (.int p1), .val (.int p2), .unset, .unset, .unset, .unset, .unset] []))) (fun t k => castTop (ef0 m p0 p1 p2) k) ?_
  refine Wp.back (U' := (s₁.setTop (mkF m 4 #[.val (.int p0), .val (.int p1), .val (.int p2), .val (.int (p1 &&& (3 : Int32))), .unset, .unset, .unset, .unset] []))) (fun t k => XS.iloadN X0.here hx rfl (hb hby at_0) rfl (XT.iconstV X0.here hx rfl (3 : Int32) (hb hby at_1) (by decide) (XS.iand X0.here hx rfl (hb hby at_2) rfl (XS.istoreN X0.here hx rfl (hb hby at_3) rfl (l' := #[.val (.int p0), .val (.int p1), .val (.int p2), .val (.int (p1 &&& (3 : Int32))), .unset, .unset, .unset, .unset]) rfl k)))) ?_
  rcases own_n p1 with hk1 | hk2 | hk3 | hk4
  · rw [hk1]
    refine Wp.back (U' := (s₁.setTop (mkF m 10 #[.val (.int p0), .val (.int p1), .val (.int p2), .val (.int (0 : Int32)), .unset, .unset, .unset, .unset] [(.int ((p2 &&& (255 : Int32))).toUInt32.toUInt16.toUInt32.toInt32)]))) (fun t k => XS.iloadN X0.here hx rfl (hb hby at_4) rfl (XT.sipushV X0.here hx rfl (255 : Int32) (hb hby at_5) (by decide) (XS.iand X0.here hx rfl (hb hby at_8) rfl (XS.i2c X0.here hx rfl (hb hby at_9) rfl k)))) ?_
    obtain ⟨_, _, ⟨T5, L5, k5, n5⟩, -, X5, ⟨Lc5, hQ5, l5, y5, z5⟩, st5⟩ := Jvm.LawKit.callS X0 hx (y := (⟨"java/lang/String", "valueOf", "(C)Ljava/lang/String;"⟩ : MethodName)) hown (mvT hZ (hw _ (List.mem_of_getElem? (i := 0) rfl))) (mvT hZ (hw _ (List.mem_of_getElem? (i := 1) rfl))) (mvT hZ (hw _ (List.mem_of_getElem? (i := 2) rfl))) (mvT hZ (hw _ (List.mem_of_getElem? (i := 3) rfl))) (by decide) (backOf (W := 0) (rm_vo l Z a0 hw [] ((p2 &&& (255 : Int32))).toUInt32.toUInt16.toUInt32.toInt32 cs h0 n0 Z0 PC hcs (own_255 p2)) hZ (hw _ (List.mem_of_getElem? (i := 3) rfl)) (hw _ (List.mem_of_getElem? (i := 2) rfl)) (by decide) (by decide)) (g := (mkF m 10 #[.val (.int p0), .val (.int p1), .val (.int p2), .val (.int (0 : Int32)), .unset, .unset, .unset, .unset] [(.int ((p2 &&& (255 : Int32))).toUInt32.toUInt16.toUInt32.toInt32)])) rfl (by rw [hml]; rfl) (argsL := [(.int ((p2 &&& (255 : Int32))).toUInt32.toUInt16.toUInt32.toInt32)]) (rest := []) (lenOf pd0_0 rfl) rfl (by show 2 * 0 + _ ≤ _; exact Nat.le_of_eq rfl) (hb hby at_10) (fun _ _ => ⟨rfl, e0, (by decide : 0 + 2 ≤ _), (by decide : 0 + 5 ≤ _)⟩)
    dsimp only [Pt.U, Pt.locs, Pt.cells, Pt.slots] at X5 l5 y5 z5 st5 hQ5
    subst l5 y5 z5
    obtain ⟨b5_0, rfl, N5q, K5, sf5_0, o5_0⟩ := hQ5
    have ne_de_b5_0 : de ≠ b5_0 := Nat.ne_of_lt (Nat.lt_of_lt_of_le PA.lt sf5_0)
    have g_b5_0 : n0 ≤ b5_0 := Nat.le_trans Z0 sf5_0
    have f6_0 := Nat.le_trans Z0 K5.1
    have f6_1 := Sta_keep0 PC K5
    have f6_2 := Sta_keep0 PD K5
    have f6_3 := PA.keep K5 nin0
    have N5 := Fr.app N0 N5q
    refine Wp.back (U' := (T5.setTop (mkF m 13 #[.val (.int p0), .val (.int p1), .val (.int p2), .val (.int (0 : Int32)), .unset, .unset, .unset, .unset] [(.ref b5_0)]))) st5 ?_
    refine Wp.back (U' := (T5.setTop (mkF m 15 #[.val (.int p0), .val (.int p1), .val (.int p2), .val (.int (0 : Int32)), .val (.ref b5_0), .unset, .unset, .unset] []))) (fun t k => XS.astore X5.here hx rfl (hb hby at_13) rfl rfl (l' := #[.val (.int p0), .val (.int p1), .val (.int p2), .val (.int (0 : Int32)), .val (.ref b5_0), .unset, .unset, .unset]) rfl k) ?_
    obtain ⟨T7, h7, X7, e7, E7, A7, D7, -, st7⟩ := newO X5 hx hZ hown (hw _ (List.mem_of_getElem? (i := 26) rfl)) (hw _ (List.mem_of_getElem? (i := 27) rfl)) (hw _ (List.mem_of_getElem? (i := 28) rfl)) rfl (g := (mkF m 15 #[.val (.int p0), .val (.int p1), .val (.int p2), .val (.int (0 : Int32)), .val (.ref b5_0), .unset, .unset, .unset] [])) rfl (hb hby at_15) (by decide) (by decide)
    obtain ⟨b7, g7⟩ : ∃ z, z = T5.heap.size := ⟨_, rfl⟩
    rw [← g7] at A7 D7 st7
    have ne_de_b7 : de ≠ b7 := Nat.ne_of_lt (Nat.lt_of_lt_of_le f6_3.lt (Nat.le_of_eq g7.symm))
    have ne_b5_0_b7 : b5_0 ≠ b7 := Nat.ne_of_lt (Nat.lt_of_lt_of_le o5_0.lt (Nat.le_of_eq g7.symm))
    have g_b7 : n0 ≤ b7 := Nat.le_trans f6_0 (Nat.le_of_eq g7.symm)
    have f8_0 := Nat.le_trans f6_0 E7.1
    have f8_1 := f6_1.ext E7
    have f8_2 := f6_2.ext E7
    have f8_3 := f6_3.ext E7
    have f8_4 := o5_0.ext E7
    have F7_46 : Fld Z h7 b7 "java/util/AbstractList" "modCount" "I" (.int (0 : Int32)) := D7 (Or.inl (hw _ (List.mem_of_getElem? (i := 46) rfl))) (ty := .int) (by decide)
    have F7_49 : Fld Z h7 b7 "java/util/ArrayList" "elementData" "[Ljava/lang/Object;" .null := D7 (Or.inl (hw _ (List.mem_of_getElem? (i := 49) rfl))) (ty := (.array (.object "java/lang/Object"))) (by decide)
    have F7_76 : Fld Z h7 b7 "java/util/ArrayList" "size" "I" (.int (0 : Int32)) := D7 (Or.inl (hw _ (List.mem_of_getElem? (i := 76) rfl))) (ty := .int) (by decide)
    refine Wp.back (U' := (T7.setTop (mkF m 18 #[.val (.int p0), .val (.int p1), .val (.int p2), .val (.int (0 : Int32)), .val (.ref b5_0), .unset, .unset, .unset] [(.ref b7)]))) st7 ?_
    refine Wp.back (U' := (T7.setTop (mkF m 19 #[.val (.int p0), .val (.int p1), .val (.int p2), .val (.int (0 : Int32)), .val (.ref b5_0), .unset, .unset, .unset] [(.ref b7), (.ref b7)]))) (fun t k => XS.dup X7.here hx rfl (hb hby at_18) rfl rfl k) ?_
    obtain ⟨_, _, ⟨T9, L9, k9, n9⟩, -, X9, ⟨Lc9, hQ9, l9, y9, z9⟩, st9⟩ := X7.specialBack hx (y := (⟨"java/util/ArrayList", "<init>", "()V"⟩ : MethodName)) rfl hown (mvT hZ (hw _ (List.mem_of_getElem? (i := 29) rfl))) (mvT hZ (hw _ (List.mem_of_getElem? (i := 30) rfl))) (mvT hZ (hw _ (List.mem_of_getElem? (i := 31) rfl))) (by decide) (backOf (W := 1) (rm_al l Z a0 hw [] b7 de h7 n0 f8_0 A7 F7_46 F7_49 F7_76 f8_2 g_b7) hZ (hw _ (List.mem_of_getElem? (i := 31) rfl)) (hw _ (List.mem_of_getElem? (i := 28) rfl)) (by decide) (by decide)) (g := (mkF m 19 #[.val (.int p0), .val (.int p1), .val (.int p2), .val (.int (0 : Int32)), .val (.ref b5_0), .unset, .unset, .unset] [(.ref b7), (.ref b7)])) rfl (by rw [hml]; rfl) (Steps.refl _) (a := b7) (argsL := []) (rest := [(.ref b7)]) (lenOf pd0_1 rfl) rfl (by show 2 * 0 + _ ≤ _; exact Nat.le_of_eq rfl) (hb hby at_19) (fun _ _ => ⟨rfl, e7, (by decide : 3 + 0 ≤ _), (by decide : 8 + 0 ≤ _)⟩)
    dsimp only [Pt.U, Pt.locs, Pt.cells, Pt.slots] at X9 l9 y9 z9 st9 hQ9
    subst l9 y9 z9
    obtain ⟨rfl, N9q, K9, o9_0, o9_1, o9_2, o9_3⟩ := hQ9
    have f10_0 := Nat.le_trans f8_0 K9.1
    have f10_1 := Sta_keep f8_1 K9 (allS (Exa_ns A7) all0)
    have f10_2 := Sta_keep f8_2 K9 (allS (Exa_ns A7) all0)
    have f10_3 := f8_3.keep K9 (ninS ne_de_b7 nin0)
    have f10_4 := f8_4.keep K9
    have f10_5 := A7.keep K9
    have N9 := Fr.app N5 N9q
    refine Wp.back (U' := (T9.setTop (mkF m 22 #[.val (.int p0), .val (.int p1), .val (.int p2), .val (.int (0 : Int32)), .val (.ref b5_0), .unset, .unset, .unset] [(.ref b7)]))) (fun t k => st9.trans k) ?_
    refine Wp.back (U' := (T9.setTop (mkF m 95 #[.val (.int p0), .val (.int p1), .val (.int p2), .val (.int (0 : Int32)), .val (.ref b5_0), .val (.ref b7), .unset, .unset] []))) (fun t k => XS.astore X9.here hx rfl (hb hby at_22) rfl rfl (l' := #[.val (.int p0), .val (.int p1), .val (.int p2), .val (.int (0 : Int32)), .val (.ref b5_0), .val (.ref b7), .unset, .unset]) rfl (XS.iloadN X9.here hx rfl (hb hby at_24) rfl (XS.ifYes X9.here hx rfl (pc0 := 25) (pc' := 47) rfl (hb hby at_25) rfl ((if0 _ _).trans (flt (by decide)).2.2.2) (by decide) (by decide) (XS.iloadN X9.here hx rfl (hb hby at_47) rfl (XT.iconstV X9.here hx rfl (1 : Int32) (hb hby at_48) (by decide) (XS.icmpYes X9.here hx rfl (pc0 := 49) (pc' := 71) rfl (hb hby at_49) rfl (flt (by decide)).2.2.2 (by decide) (by decide) (XS.iloadN X9.here hx rfl (hb hby at_71) rfl (XT.iconstV X9.here hx rfl (2 : Int32) (hb hby at_72) (by decide) (XS.icmpYes X9.here hx rfl (pc0 := 73) (pc' := 95) rfl (hb hby at_73) rfl (flt (by decide)).2.2.2 (by decide) (by decide) k))))))))) ?_
    obtain ⟨T11, h11, X11, e11, E11, A11, D11, -, st11⟩ := newO X9 hx hZ hown (hw _ (List.mem_of_getElem? (i := 99) rfl)) (hw _ (List.mem_of_getElem? (i := 100) rfl)) (hw _ (List.mem_of_getElem? (i := 101) rfl)) rfl (g := (mkF m 95 #[.val (.int p0), .val (.int p1), .val (.int p2), .val (.int (0 : Int32)), .val (.ref b5_0), .val (.ref b7), .unset, .unset] [])) rfl (hb hby at_95) (by decide) (by decide)
    obtain ⟨b11, g11⟩ : ∃ z, z = T9.heap.size := ⟨_, rfl⟩
    rw [← g11] at A11 D11 st11
    have ne_de_b11 : de ≠ b11 := Nat.ne_of_lt (Nat.lt_of_lt_of_le f10_3.lt (Nat.le_of_eq g11.symm))
    have ne_b5_0_b11 : b5_0 ≠ b11 := Nat.ne_of_lt (Nat.lt_of_lt_of_le f10_4.lt (Nat.le_of_eq g11.symm))
    have ne_b7_b11 : b7 ≠ b11 := Nat.ne_of_lt (Nat.lt_of_lt_of_le o9_0.lt (Nat.le_of_eq g11.symm))
    have g_b11 : n0 ≤ b11 := Nat.le_trans f10_0 (Nat.le_of_eq g11.symm)
    have f12_0 := Nat.le_trans f10_0 E11.1
    have f12_1 := f10_1.ext E11
    have f12_2 := f10_2.ext E11
    have f12_3 := f10_3.ext E11
    have f12_4 := f10_4.ext E11
    have f12_5 := o9_0.ext E11
    have f12_6 := o9_1.ext E11
    have f12_7 := o9_2.ext E11
    have f12_8 := o9_3.ext E11
    have F11_107 : Fld Z h11 b11 "com/example/treewright/treewright/schema/AugmentTarget$Path" "steps" "Ljava/util/List;" .null := D11 (Or.inr (hw _ (List.mem_of_getElem? (i := 107) rfl))) (ty := (.object "java/util/List")) (by decide)
    have F11_109 : Fld Z h11 b11 "com/example/treewright/treewright/schema/AugmentTarget$Path" "ownFrom" "I" (.int (0 : Int32)) := D11 (Or.inr (hw _ (List.mem_of_getElem? (i := 109) rfl))) (ty := .int) (by decide)
    refine Wp.back (U' := (T11.setTop (mkF m 98 #[.val (.int p0), .val (.int p1), .val (.int p2), .val (.int (0 : Int32)), .val (.ref b5_0), .val (.ref b7), .unset, .unset] [(.ref b11)]))) st11 ?_
    refine Wp.back (U' := (T11.setTop (mkF m 102 #[.val (.int p0), .val (.int p1), .val (.int p2), .val (.int (0 : Int32)), .val (.ref b5_0), .val (.ref b7), .unset, .unset] [(.int p0), (.ref b7), (.ref b11), (.ref b11)]))) (fun t k => XS.dup X11.here hx rfl (hb hby at_98) rfl rfl (XS.aload X11.here hx rfl (hb hby at_99) rfl rfl (XS.iloadN X11.here hx rfl (hb hby at_101) rfl k))) ?_
    obtain ⟨_, _, ⟨T13, L13, k13, n13⟩, -, X13, ⟨Lc13, hQ13, l13, y13, z13⟩, st13⟩ := X11.specialBack hx (y := (⟨"com/example/treewright/treewright/schema/AugmentTarget$Path", "<init>", "(Ljava/util/List;I)V"⟩ : MethodName)) rfl hown (mvT hZ (hw _ (List.mem_of_getElem? (i := 102) rfl))) (mvT hZ (hw _ (List.mem_of_getElem? (i := 103) rfl))) (mvT hZ (hw _ (List.mem_of_getElem? (i := 104) rfl))) (by decide) (backOf (W := 1) (rm_pt l Z a0 hw [] b11 b7 p0  h11 n0 f12_0 A11 F11_107 F11_109 g_b11) hZ (hw _ (List.mem_of_getElem? (i := 104) rfl)) (hw _ (List.mem_of_getElem? (i := 101) rfl)) (by decide) (by decide)) (g := (mkF m 102 #[.val (.int p0), .val (.int p1), .val (.int p2), .val (.int (0 : Int32)), .val (.ref b5_0), .val (.ref b7), .unset, .unset] [(.int p0), (.ref b7), (.ref b11), (.ref b11)])) rfl (by rw [hml]; rfl) (Steps.refl _) (a := b11) (argsL := [(.ref b7), (.int p0)]) (rest := [(.ref b11)]) (lenOf pd0_2 rfl) rfl (by show 2 * 0 + _ ≤ _; exact Nat.le_of_eq rfl) (hb hby at_102) (fun _ _ => ⟨rfl, e11, (by decide : 4 + 0 ≤ _), (by decide : 10 + 0 ≤ _)⟩)
    dsimp only [Pt.U, Pt.locs, Pt.cells, Pt.slots] at X13 l13 y13 z13 st13 hQ13
    subst l13 y13 z13
    obtain ⟨rfl, N13q, K13, o13_0, o13_1, o13_2⟩ := hQ13
    have f14_0 := Nat.le_trans f12_0 K13.1
    have f14_1 := Sta_keep f12_1 K13 (allS (Exa_ns A11) all0)
    have f14_2 := Sta_keep f12_2 K13 (allS (Exa_ns A11) all0)
    have f14_3 := f12_3.keep K13 (ninS ne_de_b11 nin0)
    have f14_4 := f12_4.keep K13
    have f14_5 := f12_5.keep K13
    have f14_6 := f12_6.keep K13 (ninS ne_b7_b11 nin0)
    have f14_7 := f12_7.keep K13 (ninS ne_b7_b11 nin0)
    have f14_8 := f12_8.keep K13 (ninS ne_b7_b11 nin0)
    have f14_9 := A11.keep K13
    have N13 := Fr.app N9 N13q
    refine Wp.back (U' := (T13.setTop (mkF m 105 #[.val (.int p0), .val (.int p1), .val (.int p2), .val (.int (0 : Int32)), .val (.ref b5_0), .val (.ref b7), .unset, .unset] [(.ref b11)]))) (fun t k => st13.trans k) ?_
    refine Wp.back (U' := (T13.setTop (mkF m 108 #[.val (.int p0), .val (.int p1), .val (.int p2), .val (.int (0 : Int32)), .val (.ref b5_0), .val (.ref b7), .val (.ref b11), .unset] [(.int p0)]))) (fun t k => XS.astore X13.here hx rfl (hb hby at_105) rfl rfl (l' := #[.val (.int p0), .val (.int p1), .val (.int p2), .val (.int (0 : Int32)), .val (.ref b5_0), .val (.ref b7), .val (.ref b11), .unset]) rfl (XS.iloadN X13.here hx rfl (hb hby at_107) rfl k)) ?_
    by_cases c108_15 : p0 = (0 : Int32)
    · refine Wp.back (U' := (T13.setTop (mkF m 120 #[.val (.int p0), .val (.int p1), .val (.int p2), .val (.int (0 : Int32)), .val (.ref b5_0), .val (.ref b7), .val (.ref b11), .val (.int (1 : Int32))] [(.ref b11)]))) (fun t k => XS.ifNo X13.here hx rfl (hb hby at_108) rfl ((if0 _ _).trans (teq c108_15).2) (XT.iconstV X13.here hx rfl (1 : Int32) (hb hby at_111) (by decide) (XS.goto X13.here hx rfl (pc0 := 112) (pc' := 116) rfl (hb hby at_112) (by decide) (by decide) (XS.istore X13.here hx rfl (hb hby at_116) rfl (l' := #[.val (.int p0), .val (.int p1), .val (.int p2), .val (.int (0 : Int32)), .val (.ref b5_0), .val (.ref b7), .val (.ref b11), .val (.int (1 : Int32))]) rfl (XS.aload X13.here hx rfl (hb hby at_118) rfl rfl k))))) ?_
      obtain ⟨cq16, kq16, q16a, q16b, q16c⟩ := isOf hZ rfl o13_0
      obtain ⟨_, _, ⟨T16, L16, k16, n16⟩, -, X16, ⟨Lc16, hQ16, l16, y16, z16⟩, st16⟩ := X13.virtualBack hx (y := (⟨"com/example/treewright/treewright/schema/AugmentTarget$Path", "startsOwn", "()Z"⟩ : MethodName)) (z := (⟨"com/example/treewright/treewright/schema/AugmentTarget$Path", "startsOwn", "()Z"⟩ : MethodName)) hown (mvT hZ (hw _ (List.mem_of_getElem? (i := 110) rfl))) (mvT hZ (hw _ (List.mem_of_getElem? (i := 111) rfl))) (notFace_of_selects (args := #[]) (mvT hZ (hw _ (List.mem_of_getElem? (i := 113) rfl)))) (mvT hZ (hw _ (List.mem_of_getElem? (i := 113) rfl))) (mvT hZ (hw _ (List.mem_of_getElem? (i := 112) rfl))) (by decide) (backOf (W := 0) (rm_so1 l Z a0 hw [] b11 p0 T13.heap n0 f14_0 o13_2 c108_15) hZ (hw _ (List.mem_of_getElem? (i := 114) rfl)) (hw _ (List.mem_of_getElem? (i := 101) rfl)) (by decide) (by decide)) q16a q16c (g := (mkF m 120 #[.val (.int p0), .val (.int p1), .val (.int p2), .val (.int (0 : Int32)), .val (.ref b5_0), .val (.ref b7), .val (.ref b11), .val (.int (1 : Int32))] [(.ref b11)])) rfl (by rw [hml]; rfl) (Steps.refl _) (argsL := []) (rest := []) (lenOf pd0_3 rfl) rfl (by show 2 * 0 + _ ≤ _; exact Nat.le_of_eq rfl) (hb hby at_120) (fun _ _ => ⟨rfl, rfl, (by decide : 4 + 0 ≤ _), (by decide : 10 + 0 ≤ _)⟩)
      dsimp only [Pt.U, Pt.locs, Pt.cells, Pt.slots] at X16 l16 y16 z16 st16 hQ16
      subst l16 y16 z16
      obtain ⟨rfl, N16q, K16⟩ := hQ16
      have f17_0 := Nat.le_trans f14_0 K16.1
      have f17_1 := Sta_keep0 f14_1 K16
      have f17_2 := Sta_keep0 f14_2 K16
      have f17_3 := f14_3.keep K16 nin0
      have f17_4 := f14_4.keep K16
      have f17_5 := f14_5.keep K16
      have f17_6 := f14_6.keep K16 nin0
      have f17_7 := f14_7.keep K16 nin0
      have f17_8 := f14_8.keep K16 nin0
      have f17_9 := o13_0.keep K16
      have f17_10 := o13_1.keep K16 nin0
      have f17_11 := o13_2.keep K16 nin0
      have N16 := Fr.app N13 N16q
      refine Wp.back (U' := (T16.setTop (mkF m 123 #[.val (.int p0), .val (.int p1), .val (.int p2), .val (.int (0 : Int32)), .val (.ref b5_0), .val (.ref b7), .val (.ref b11), .val (.int (1 : Int32))] [(.int (1 : Int32))]))) (fun t k => st16.trans k) ?_
      refine Wp.back (U' := (T16.setTop (mkF m 130 #[.val (.int p0), .val (.int p1), .val (.int p2), .val (.int (0 : Int32)), .val (.ref b5_0), .val (.ref b7), .val (.ref b11), .val (.int (1 : Int32))] [(.ref b11)]))) (fun t k => XS.iload X16.here hx rfl (hb hby at_123) rfl (XS.icmpNo X16.here hx rfl (hb hby at_125) rfl (teq (by decide)).2 (XS.aload X16.here hx rfl (hb hby at_128) rfl rfl k))) ?_
      obtain ⟨cq18, kq18, q18a, q18b, q18c⟩ := isOf hZ rfl f17_9
      obtain ⟨_, _, ⟨T18, L18, k18, n18⟩, -, X18, ⟨Lc18, hQ18, l18, y18, z18⟩, st18⟩ := X16.virtualBack hx (y := (⟨"com/example/treewright/treewright/schema/AugmentTarget$Path", "ownFrom", "()I"⟩ : MethodName)) (z := (⟨"com/example/treewright/treewright/schema/AugmentTarget$Path", "ownFrom", "()I"⟩ : MethodName)) hown (mvT hZ (hw _ (List.mem_of_getElem? (i := 115) rfl))) (mvT hZ (hw _ (List.mem_of_getElem? (i := 116) rfl))) (notFace_of_selects (args := #[]) (mvT hZ (hw _ (List.mem_of_getElem? (i := 118) rfl)))) (mvT hZ (hw _ (List.mem_of_getElem? (i := 118) rfl))) (mvT hZ (hw _ (List.mem_of_getElem? (i := 117) rfl))) (by decide) (backOf (W := 0) (rm_of l Z a0 hw [] b11 p0 T16.heap n0 f17_0 f17_11) hZ (hw _ (List.mem_of_getElem? (i := 119) rfl)) (hw _ (List.mem_of_getElem? (i := 101) rfl)) (by decide) (by decide)) q18a q18c (g := (mkF m 130 #[.val (.int p0), .val (.int p1), .val (.int p2), .val (.int (0 : Int32)), .val (.ref b5_0), .val (.ref b7), .val (.ref b11), .val (.int (1 : Int32))] [(.ref b11)])) rfl (by rw [hml]; rfl) (Steps.refl _) (argsL := []) (rest := []) (lenOf pd0_4 rfl) rfl (by show 2 * 0 + _ ≤ _; exact Nat.le_of_eq rfl) (hb hby at_130) (fun _ _ => ⟨rfl, rfl, (by decide : 4 + 0 ≤ _), (by decide : 10 + 0 ≤ _)⟩)
      dsimp only [Pt.U, Pt.locs, Pt.cells, Pt.slots] at X18 l18 y18 z18 st18 hQ18
      subst l18 y18 z18
      obtain ⟨rfl, N18q, K18⟩ := hQ18
      have f19_0 := Nat.le_trans f17_0 K18.1
      have f19_1 := Sta_keep0 f17_1 K18
      have f19_2 := Sta_keep0 f17_2 K18
      have f19_3 := f17_3.keep K18 nin0
      have f19_4 := f17_4.keep K18
      have f19_5 := f17_5.keep K18
      have f19_6 := f17_6.keep K18 nin0
      have f19_7 := f17_7.keep K18 nin0
      have f19_8 := f17_8.keep K18 nin0
      have f19_9 := f17_9.keep K18
      have f19_10 := f17_10.keep K18 nin0
      have f19_11 := f17_11.keep K18 nin0
      have N18 := Fr.app N16 N18q
      refine Wp.back (U' := (T18.setTop (mkF m 133 #[.val (.int p0), .val (.int p1), .val (.int p2), .val (.int (0 : Int32)), .val (.ref b5_0), .val (.ref b7), .val (.ref b11), .val (.int (1 : Int32))] [(.int p0)]))) (fun t k => st18.trans k) ?_
      refine Wp.back (U' := (T18.setTop (mkF m 139 #[.val (.int p0), .val (.int p1), .val (.int p2), .val (.int (0 : Int32)), .val (.ref b5_0), .val (.ref b7), .val (.ref b11), .val (.int (1 : Int32))] [(.ref b11)]))) (fun t k => XS.iloadN X18.here hx rfl (hb hby at_133) rfl (XS.icmpNo X18.here hx rfl (hb hby at_134) rfl (teq (rfl : p0 = p0)).2 (XS.aload X18.here hx rfl (hb hby at_137) rfl rfl k))) ?_
      obtain ⟨cq20, kq20, q20a, q20b, q20c⟩ := isOf hZ rfl f19_9
      obtain ⟨_, _, ⟨T20, L20, k20, n20⟩, -, X20, ⟨Lc20, hQ20, l20, y20, z20⟩, st20⟩ := X18.virtualBack hx (y := (⟨"com/example/treewright/treewright/schema/AugmentTarget$Path", "steps", "()Ljava/util/List;"⟩ : MethodName)) (z := (⟨"com/example/treewright/treewright/schema/AugmentTarget$Path", "steps", "()Ljava/util/List;"⟩ : MethodName)) hown (mvT hZ (hw _ (List.mem_of_getElem? (i := 120) rfl))) (mvT hZ (hw _ (List.mem_of_getElem? (i := 121) rfl))) (notFace_of_selects (args := #[]) (mvT hZ (hw _ (List.mem_of_getElem? (i := 123) rfl)))) (mvT hZ (hw _ (List.mem_of_getElem? (i := 123) rfl))) (mvT hZ (hw _ (List.mem_of_getElem? (i := 122) rfl))) (by decide) (backOf (W := 0) (rm_ss l Z a0 hw [] b11 b7 T18.heap n0 f19_0 f19_10) hZ (hw _ (List.mem_of_getElem? (i := 124) rfl)) (hw _ (List.mem_of_getElem? (i := 101) rfl)) (by decide) (by decide)) q20a q20c (g := (mkF m 139 #[.val (.int p0), .val (.int p1), .val (.int p2), .val (.int (0 : Int32)), .val (.ref b5_0), .val (.ref b7), .val (.ref b11), .val (.int (1 : Int32))] [(.ref b11)])) rfl (by rw [hml]; rfl) (Steps.refl _) (argsL := []) (rest := []) (lenOf pd0_5 rfl) rfl (by show 2 * 0 + _ ≤ _; exact Nat.le_of_eq rfl) (hb hby at_139) (fun _ _ => ⟨rfl, rfl, (by decide : 4 + 0 ≤ _), (by decide : 10 + 0 ≤ _)⟩)
      dsimp only [Pt.U, Pt.locs, Pt.cells, Pt.slots] at X20 l20 y20 z20 st20 hQ20
      subst l20 y20 z20
      obtain ⟨rfl, N20q, K20⟩ := hQ20
      have f21_0 := Nat.le_trans f19_0 K20.1
      have f21_1 := Sta_keep0 f19_1 K20
      have f21_2 := Sta_keep0 f19_2 K20
      have f21_3 := f19_3.keep K20 nin0
      have f21_4 := f19_4.keep K20
      have f21_5 := f19_5.keep K20
      have f21_6 := f19_6.keep K20 nin0
      have f21_7 := f19_7.keep K20 nin0
      have f21_8 := f19_8.keep K20 nin0
      have f21_9 := f19_9.keep K20
      have f21_10 := f19_10.keep K20 nin0
      have f21_11 := f19_11.keep K20 nin0
      have N20 := Fr.app N18 N20q
      refine Wp.back (U' := (T20.setTop (mkF m 142 #[.val (.int p0), .val (.int p1), .val (.int p2), .val (.int (0 : Int32)), .val (.ref b5_0), .val (.ref b7), .val (.ref b11), .val (.int (1 : Int32))] [(.ref b7)]))) (fun t k => st20.trans k) ?_
      obtain ⟨cq22, kq22, q22a, q22b, q22c⟩ := isOf hZ rfl f21_5
      obtain ⟨_, _, ⟨T22, L22, k22, n22⟩, -, X22, ⟨Lc22, hQ22, l22, y22, z22⟩, st22⟩ := X20.interfaceBack hx (xi := (⟨"java/util/List", "size", "()I"⟩ : MethodName)) (y := (⟨"java/util/ArrayList", "size", "()I"⟩ : MethodName)) hown (mvT hZ (hw _ (List.mem_of_getElem? (i := 125) rfl))) (mvT hZ (hw _ (List.mem_of_getElem? (i := 126) rfl))) (mvT hZ (hw _ (List.mem_of_getElem? (i := 127) rfl))) (mvT hZ (hw _ (List.mem_of_getElem? (i := 128) rfl))) (mvT hZ (hw _ (List.mem_of_getElem? (i := 129) rfl))) (mvT hZ (hw _ (List.mem_of_getElem? (i := 130) rfl))) (mvT hZ (hw _ (List.mem_of_getElem? (i := 131) rfl))) (mvT hZ (hw _ (List.mem_of_getElem? (i := 132) rfl))) (by decide) (backOf (W := 0) (rm_sz0 l Z a0 hw [] b7  T20.heap n0 f21_0 f21_8) hZ (hw _ (List.mem_of_getElem? (i := 133) rfl)) (hw _ (List.mem_of_getElem? (i := 28) rfl)) (by decide) (by decide)) q22a q22b q22c (g := (mkF m 142 #[.val (.int p0), .val (.int p1), .val (.int p2), .val (.int (0 : Int32)), .val (.ref b5_0), .val (.ref b7), .val (.ref b11), .val (.int (1 : Int32))] [(.ref b7)])) rfl (by rw [hml]; rfl) (Steps.refl _) (argsL := []) (rest := []) (lenOf pd0_4 rfl) rfl (by show 2 * 0 + _ ≤ _; exact Nat.le_of_eq rfl) (hb hby at_142) (fun _ _ => ⟨rfl, rfl, (by decide : 4 + 0 ≤ _), (by decide : 10 + 0 ≤ _)⟩)
      dsimp only [Pt.U, Pt.locs, Pt.cells, Pt.slots] at X22 l22 y22 z22 st22 hQ22
      subst l22 y22 z22
      obtain ⟨rfl, N22q, K22⟩ := hQ22
      have f23_0 := Nat.le_trans f21_0 K22.1
      have f23_1 := Sta_keep0 f21_1 K22
      have f23_2 := Sta_keep0 f21_2 K22
      have f23_3 := f21_3.keep K22 nin0
      have f23_4 := f21_4.keep K22
      have f23_5 := f21_5.keep K22
      have f23_6 := f21_6.keep K22 nin0
      have f23_7 := f21_7.keep K22 nin0
      have f23_8 := f21_8.keep K22 nin0
      have f23_9 := f21_9.keep K22
      have f23_10 := f21_10.keep K22 nin0
      have f23_11 := f21_11.keep K22 nin0
      have N22 := Fr.app N20 N22q
      refine Wp.back (U' := (T22.setTop (mkF m 147 #[.val (.int p0), .val (.int p1), .val (.int p2), .val (.int (0 : Int32)), .val (.ref b5_0), .val (.ref b7), .val (.ref b11), .val (.int (1 : Int32))] [(.int (0 : Int32))]))) (fun t k => st22.trans k) ?_
      refine Wp.back (U' := (T22.setTop (mkF m 156 #[.val (.int p0), .val (.int p1), .val (.int p2), .val (.int (0 : Int32)), .val (.ref b5_0), .val (.ref b7), .val (.ref b11), .val (.int (1 : Int32))] [(.int (1 : Int32))]))) (fun t k => XS.iloadN X22.here hx rfl (hb hby at_147) rfl (XS.icmpNo X22.here hx rfl (hb hby at_148) rfl (teq (by decide)).2 (XT.iconstV X22.here hx rfl (1 : Int32) (hb hby at_151) (by decide) (XS.goto X22.here hx rfl (pc0 := 152) (pc' := 156) rfl (hb hby at_152) (by decide) (by decide) k)))) ?_
      obtain ⟨fs, hr, hrun, hended, hW, hsame⟩ := X22.leave (v := (some (.int (1 : Int32)))) (fun h => by rw [hret] at h; cases h)
      refine Wp.done (retN X22 hx (t := .boolean) hret (by simp) (hb hby at_156) hr) hrun hended ⟨_, _, rfl, ?_, ⟨_, rfl⟩, hW, hsame.mono (by decide) (by decide)⟩
      show QL n0 _ T22.heap _
      exact ⟨rfl, N22⟩
    · refine Wp.back (U' := (T13.setTop (mkF m 120 #[.val (.int p0), .val (.int p1), .val (.int p2), .val (.int (0 : Int32)), .val (.ref b5_0), .val (.ref b7), .val (.ref b11), .val (.int (0 : Int32))] [(.ref b11)]))) (fun t k => XS.ifYes X13.here hx rfl (pc0 := 108) (pc' := 115) rfl (hb hby at_108) rfl ((if0 _ _).trans (feq c108_15).2) (by decide) (by decide) (XT.iconstV X13.here hx rfl (0 : Int32) (hb hby at_115) (by decide) (XS.istore X13.here hx rfl (hb hby at_116) rfl (l' := #[.val (.int p0), .val (.int p1), .val (.int p2), .val (.int (0 : Int32)), .val (.ref b5_0), .val (.ref b7), .val (.ref b11), .val (.int (0 : Int32))]) rfl (XS.aload X13.here hx rfl (hb hby at_118) rfl rfl k)))) ?_
      obtain ⟨cq24, kq24, q24a, q24b, q24c⟩ := isOf hZ rfl o13_0
      obtain ⟨_, _, ⟨T24, L24, k24, n24⟩, -, X24, ⟨Lc24, hQ24, l24, y24, z24⟩, st24⟩ := X13.virtualBack hx (y := (⟨"com/example/treewright/treewright/schema/AugmentTarget$Path", "startsOwn", "()Z"⟩ : MethodName)) (z := (⟨"com/example/treewright/treewright/schema/AugmentTarget$Path", "startsOwn", "()Z"⟩ : MethodName)) hown (mvT hZ (hw _ (List.mem_of_getElem? (i := 110) rfl))) (mvT hZ (hw _ (List.mem_of_getElem? (i := 111) rfl))) (notFace_of_selects (args := #[]) (mvT hZ (hw _ (List.mem_of_getElem? (i := 113) rfl)))) (mvT hZ (hw _ (List.mem_of_getElem? (i := 113) rfl))) (mvT hZ (hw _ (List.mem_of_getElem? (i := 112) rfl))) (by decide) (backOf (W := 0) (rm_so0 l Z a0 hw [] b11 p0 T13.heap n0 f14_0 o13_2 c108_15) hZ (hw _ (List.mem_of_getElem? (i := 114) rfl)) (hw _ (List.mem_of_getElem? (i := 101) rfl)) (by decide) (by decide)) q24a q24c (g := (mkF m 120 #[.val (.int p0), .val (.int p1), .val (.int p2), .val (.int (0 : Int32)), .val (.ref b5_0), .val (.ref b7), .val (.ref b11), .val (.int (0 : Int32))] [(.ref b11)])) rfl (by rw [hml]; rfl) (Steps.refl _) (argsL := []) (rest := []) (lenOf pd0_3 rfl) rfl (by show 2 * 0 + _ ≤ _; exact Nat.le_of_eq rfl) (hb hby at_120) (fun _ _ => ⟨rfl, rfl, (by decide : 4 + 0 ≤ _), (by decide : 10 + 0 ≤ _)⟩)
      dsimp only [Pt.U, Pt.locs, Pt.cells, Pt.slots] at X24 l24 y24 z24 st24 hQ24
      subst l24 y24 z24
      obtain ⟨rfl, N24q, K24⟩ := hQ24
      have f25_0 := Nat.le_trans f14_0 K24.1
      have f25_1 := Sta_keep0 f14_1 K24
      have f25_2 := Sta_keep0 f14_2 K24
      have f25_3 := f14_3.keep K24 nin0
      have f25_4 := f14_4.keep K24
      have f25_5 := f14_5.keep K24
      have f25_6 := f14_6.keep K24 nin0
      have f25_7 := f14_7.keep K24 nin0
      have f25_8 := f14_8.keep K24 nin0
      have f25_9 := o13_0.keep K24
      have f25_10 := o13_1.keep K24 nin0
      have f25_11 := o13_2.keep K24 nin0
      have N24 := Fr.app N13 N24q
      refine Wp.back (U' := (T24.setTop (mkF m 123 #[.val (.int p0), .val (.int p1), .val (.int p2), .val (.int (0 : Int32)), .val (.ref b5_0), .val (.ref b7), .val (.ref b11), .val (.int (0 : Int32))] [(.int (0 : Int32))]))) (fun t k => st24.trans k) ?_
      refine Wp.back (U' := (T24.setTop (mkF m 130 #[.val (.int p0), .val (.int p1), .val (.int p2), .val (.int (0 : Int32)), .val (.ref b5_0), .val (.ref b7), .val (.ref b11), .val (.int (0 : Int32))] [(.ref b11)]))) (fun t k => XS.iload X24.here hx rfl (hb hby at_123) rfl (XS.icmpNo X24.here hx rfl (hb hby at_125) rfl (teq (by decide)).2 (XS.aload X24.here hx rfl (hb hby at_128) rfl rfl k))) ?_
      obtain ⟨cq26, kq26, q26a, q26b, q26c⟩ := isOf hZ rfl f25_9
      obtain ⟨_, _, ⟨T26, L26, k26, n26⟩, -, X26, ⟨Lc26, hQ26, l26, y26, z26⟩, st26⟩ := X24.virtualBack hx (y := (⟨"com/example/treewright/treewright/schema/AugmentTarget$Path", "ownFrom", "()I"⟩ : MethodName)) (z := (⟨"com/example/treewright/treewright/schema/AugmentTarget$Path", "ownFrom", "()I"⟩ : MethodName)) hown (mvT hZ (hw _ (List.mem_of_getElem? (i := 115) rfl))) (mvT hZ (hw _ (List.mem_of_getElem? (i := 116) rfl))) (notFace_of_selects (args := #[]) (mvT hZ (hw _ (List.mem_of_getElem? (i := 118) rfl)))) (mvT hZ (hw _ (List.mem_of_getElem? (i := 118) rfl))) (mvT hZ (hw _ (List.mem_of_getElem? (i := 117) rfl))) (by decide) (backOf (W := 0) (rm_of l Z a0 hw [] b11 p0 T24.heap n0 f25_0 f25_11) hZ (hw _ (List.mem_of_getElem? (i := 119) rfl)) (hw _ (List.mem_of_getElem? (i := 101) rfl)) (by decide) (by decide)) q26a q26c (g := (mkF m 130 #[.val (.int p0), .val (.int p1), .val (.int p2), .val (.int (0 : Int32)), .val (.ref b5_0), .val (.ref b7), .val (.ref b11), .val (.int (0 : Int32))] [(.ref b11)])) rfl (by rw [hml]; rfl) (Steps.refl _) (argsL := []) (rest := []) (lenOf pd0_4 rfl) rfl (by show 2 * 0 + _ ≤ _; exact Nat.le_of_eq rfl) (hb hby at_130) (fun _ _ => ⟨rfl, rfl, (by decide : 4 + 0 ≤ _), (by decide : 10 + 0 ≤ _)⟩)
      dsimp only [Pt.U, Pt.locs, Pt.cells, Pt.slots] at X26 l26 y26 z26 st26 hQ26
      subst l26 y26 z26
      obtain ⟨rfl, N26q, K26⟩ := hQ26
      have f27_0 := Nat.le_trans f25_0 K26.1
      have f27_1 := Sta_keep0 f25_1 K26
      have f27_2 := Sta_keep0 f25_2 K26
      have f27_3 := f25_3.keep K26 nin0
      have f27_4 := f25_4.keep K26
      have f27_5 := f25_5.keep K26
      have f27_6 := f25_6.keep K26 nin0
      have f27_7 := f25_7.keep K26 nin0
      have f27_8 := f25_8.keep K26 nin0
      have f27_9 := f25_9.keep K26
      have f27_10 := f25_10.keep K26 nin0
      have f27_11 := f25_11.keep K26 nin0
      have N26 := Fr.app N24 N26q
      refine Wp.back (U' := (T26.setTop (mkF m 133 #[.val (.int p0), .val (.int p1), .val (.int p2), .val (.int (0 : Int32)), .val (.ref b5_0), .val (.ref b7), .val (.ref b11), .val (.int (0 : Int32))] [(.int p0)]))) (fun t k => st26.trans k) ?_
      refine Wp.back (U' := (T26.setTop (mkF m 139 #[.val (.int p0), .val (.int p1), .val (.int p2), .val (.int (0 : Int32)), .val (.ref b5_0), .val (.ref b7), .val (.ref b11), .val (.int (0 : Int32))] [(.ref b11)]))) (fun t k => XS.iloadN X26.here hx rfl (hb hby at_133) rfl (XS.icmpNo X26.here hx rfl (hb hby at_134) rfl (teq (rfl : p0 = p0)).2 (XS.aload X26.here hx rfl (hb hby at_137) rfl rfl k))) ?_
      obtain ⟨cq28, kq28, q28a, q28b, q28c⟩ := isOf hZ rfl f27_9
      obtain ⟨_, _, ⟨T28, L28, k28, n28⟩, -, X28, ⟨Lc28, hQ28, l28, y28, z28⟩, st28⟩ := X26.virtualBack hx (y := (⟨"com/example/treewright/treewright/schema/AugmentTarget$Path", "steps", "()Ljava/util/List;"⟩ : MethodName)) (z := (⟨"com/example/treewright/treewright/schema/AugmentTarget$Path", "steps", "()Ljava/util/List;"⟩ : MethodName)) hown (mvT hZ (hw _ (List.mem_of_getElem? (i := 120) rfl))) (mvT hZ (hw _ (List.mem_of_getElem? (i := 121) rfl))) (notFace_of_selects (args := #[]) (mvT hZ (hw _ (List.mem_of_getElem? (i := 123) rfl)))) (mvT hZ (hw _ (List.mem_of_getElem? (i := 123) rfl))) (mvT hZ (hw _ (List.mem_of_getElem? (i := 122) rfl))) (by decide) (backOf (W := 0) (rm_ss l Z a0 hw [] b11 b7 T26.heap n0 f27_0 f27_10) hZ (hw _ (List.mem_of_getElem? (i := 124) rfl)) (hw _ (List.mem_of_getElem? (i := 101) rfl)) (by decide) (by decide)) q28a q28c (g := (mkF m 139 #[.val (.int p0), .val (.int p1), .val (.int p2), .val (.int (0 : Int32)), .val (.ref b5_0), .val (.ref b7), .val (.ref b11), .val (.int (0 : Int32))] [(.ref b11)])) rfl (by rw [hml]; rfl) (Steps.refl _) (argsL := []) (rest := []) (lenOf pd0_5 rfl) rfl (by show 2 * 0 + _ ≤ _; exact Nat.le_of_eq rfl) (hb hby at_139) (fun _ _ => ⟨rfl, rfl, (by decide : 4 + 0 ≤ _), (by decide : 10 + 0 ≤ _)⟩)
      dsimp only [Pt.U, Pt.locs, Pt.cells, Pt.slots] at X28 l28 y28 z28 st28 hQ28
      subst l28 y28 z28
      obtain ⟨rfl, N28q, K28⟩ := hQ28
      have f29_0 := Nat.le_trans f27_0 K28.1
      have f29_1 := Sta_keep0 f27_1 K28
      have f29_2 := Sta_keep0 f27_2 K28
      have f29_3 := f27_3.keep K28 nin0
      have f29_4 := f27_4.keep K28
      have f29_5 := f27_5.keep K28
      have f29_6 := f27_6.keep K28 nin0
      have f29_7 := f27_7.keep K28 nin0
      have f29_8 := f27_8.keep K28 nin0
      have f29_9 := f27_9.keep K28
      have f29_10 := f27_10.keep K28 nin0
      have f29_11 := f27_11.keep K28 nin0
      have N28 := Fr.app N26 N28q
      refine Wp.back (U' := (T28.setTop (mkF m 142 #[.val (.int p0), .val (.int p1), .val (.int p2), .val (.int (0 : Int32)), .val (.ref b5_0), .val (.ref b7), .val (.ref b11), .val (.int (0 : Int32))] [(.ref b7)]))) (fun t k => st28.trans k) ?_
      obtain ⟨cq30, kq30, q30a, q30b, q30c⟩ := isOf hZ rfl f29_5
      obtain ⟨_, _, ⟨T30, L30, k30, n30⟩, -, X30, ⟨Lc30, hQ30, l30, y30, z30⟩, st30⟩ := X28.interfaceBack hx (xi := (⟨"java/util/List", "size", "()I"⟩ : MethodName)) (y := (⟨"java/util/ArrayList", "size", "()I"⟩ : MethodName)) hown (mvT hZ (hw _ (List.mem_of_getElem? (i := 125) rfl))) (mvT hZ (hw _ (List.mem_of_getElem? (i := 126) rfl))) (mvT hZ (hw _ (List.mem_of_getElem? (i := 127) rfl))) (mvT hZ (hw _ (List.mem_of_getElem? (i := 128) rfl))) (mvT hZ (hw _ (List.mem_of_getElem? (i := 129) rfl))) (mvT hZ (hw _ (List.mem_of_getElem? (i := 130) rfl))) (mvT hZ (hw _ (List.mem_of_getElem? (i := 131) rfl))) (mvT hZ (hw _ (List.mem_of_getElem? (i := 132) rfl))) (by decide) (backOf (W := 0) (rm_sz0 l Z a0 hw [] b7  T28.heap n0 f29_0 f29_8) hZ (hw _ (List.mem_of_getElem? (i := 133) rfl)) (hw _ (List.mem_of_getElem? (i := 28) rfl)) (by decide) (by decide)) q30a q30b q30c (g := (mkF m 142 #[.val (.int p0), .val (.int p1), .val (.int p2), .val (.int (0 : Int32)), .val (.ref b5_0), .val (.ref b7), .val (.ref b11), .val (.int (0 : Int32))] [(.ref b7)])) rfl (by rw [hml]; rfl) (Steps.refl _) (argsL := []) (rest := []) (lenOf pd0_4 rfl) rfl (by show 2 * 0 + _ ≤ _; exact Nat.le_of_eq rfl) (hb hby at_142) (fun _ _ => ⟨rfl, rfl, (by decide : 4 + 0 ≤ _), (by decide : 10 + 0 ≤ _)⟩)
      dsimp only [Pt.U, Pt.locs, Pt.cells, Pt.slots] at X30 l30 y30 z30 st30 hQ30
      subst l30 y30 z30
      obtain ⟨rfl, N30q, K30⟩ := hQ30
      have f31_0 := Nat.le_trans f29_0 K30.1
      have f31_1 := Sta_keep0 f29_1 K30
      have f31_2 := Sta_keep0 f29_2 K30
      have f31_3 := f29_3.keep K30 nin0
      have f31_4 := f29_4.keep K30
      have f31_5 := f29_5.keep K30
      have f31_6 := f29_6.keep K30 nin0
      have f31_7 := f29_7.keep K30 nin0
      have f31_8 := f29_8.keep K30 nin0
      have f31_9 := f29_9.keep K30
      have f31_10 := f29_10.keep K30 nin0
      have f31_11 := f29_11.keep K30 nin0
      have N30 := Fr.app N28 N30q
      refine Wp.back (U' := (T30.setTop (mkF m 147 #[.val (.int p0), .val (.int p1), .val (.int p2), .val (.int (0 : Int32)), .val (.ref b5_0), .val (.ref b7), .val (.ref b11), .val (.int (0 : Int32))] [(.int (0 : Int32))]))) (fun t k => st30.trans k) ?_
      refine Wp.back (U' := (T30.setTop (mkF m 156 #[.val (.int p0), .val (.int p1), .val (.int p2), .val (.int (0 : Int32)), .val (.ref b5_0), .val (.ref b7), .val (.ref b11), .val (.int (0 : Int32))] [(.int (1 : Int32))]))) (fun t k => XS.iloadN X30.here hx rfl (hb hby at_147) rfl (XS.icmpNo X30.here hx rfl (hb hby at_148) rfl (teq (by decide)).2 (XT.iconstV X30.here hx rfl (1 : Int32) (hb hby at_151) (by decide) (XS.goto X30.here hx rfl (pc0 := 152) (pc' := 156) rfl (hb hby at_152) (by decide) (by decide) k)))) ?_
      obtain ⟨fs, hr, hrun, hended, hW, hsame⟩ := X30.leave (v := (some (.int (1 : Int32)))) (fun h => by rw [hret] at h; cases h)
      refine Wp.done (retN X30 hx (t := .boolean) hret (by simp) (hb hby at_156) hr) hrun hended ⟨_, _, rfl, ?_, ⟨_, rfl⟩, hW, hsame.mono (by decide) (by decide)⟩
      show QL n0 _ T30.heap _
      exact ⟨rfl, N30⟩
  · rw [hk2]
    refine Wp.back (U' := (s₁.setTop (mkF m 10 #[.val (.int p0), .val (.int p1), .val (.int p2), .val (.int (1 : Int32)), .unset, .unset, .unset, .unset] [(.int ((p2 &&& (255 : Int32))).toUInt32.toUInt16.toUInt32.toInt32)]))) (fun t k => XS.iloadN X0.here hx rfl (hb hby at_4) rfl (XT.sipushV X0.here hx rfl (255 : Int32) (hb hby at_5) (by decide) (XS.iand X0.here hx rfl (hb hby at_8) rfl (XS.i2c X0.here hx rfl (hb hby at_9) rfl k)))) ?_
    obtain ⟨_, _, ⟨T32, L32, k32, n32⟩, -, X32, ⟨Lc32, hQ32, l32, y32, z32⟩, st32⟩ := Jvm.LawKit.callS X0 hx (y := (⟨"java/lang/String", "valueOf", "(C)Ljava/lang/String;"⟩ : MethodName)) hown (mvT hZ (hw _ (List.mem_of_getElem? (i := 0) rfl))) (mvT hZ (hw _ (List.mem_of_getElem? (i := 1) rfl))) (mvT hZ (hw _ (List.mem_of_getElem? (i := 2) rfl))) (mvT hZ (hw _ (List.mem_of_getElem? (i := 3) rfl))) (by decide) (backOf (W := 0) (rm_vo l Z a0 hw [] ((p2 &&& (255 : Int32))).toUInt32.toUInt16.toUInt32.toInt32 cs h0 n0 Z0 PC hcs (own_255 p2)) hZ (hw _ (List.mem_of_getElem? (i := 3) rfl)) (hw _ (List.mem_of_getElem? (i := 2) rfl)) (by decide) (by decide)) (g := (mkF m 10 #[.val (.int p0), .val (.int p1), .val (.int p2), .val (.int (1 : Int32)), .unset, .unset, .unset, .unset] [(.int ((p2 &&& (255 : Int32))).toUInt32.toUInt16.toUInt32.toInt32)])) rfl (by rw [hml]; rfl) (argsL := [(.int ((p2 &&& (255 : Int32))).toUInt32.toUInt16.toUInt32.toInt32)]) (rest := []) (lenOf pd0_0 rfl) rfl (by show 2 * 0 + _ ≤ _; exact Nat.le_of_eq rfl) (hb hby at_10) (fun _ _ => ⟨rfl, e0, (by decide : 0 + 2 ≤ _), (by decide : 0 + 5 ≤ _)⟩)
    dsimp only [Pt.U, Pt.locs, Pt.cells, Pt.slots] at X32 l32 y32 z32 st32 hQ32
    subst l32 y32 z32
    obtain ⟨b32_0, rfl, N32q, K32, sf32_0, o32_0⟩ := hQ32
    have ne_de_b32_0 : de ≠ b32_0 := Nat.ne_of_lt (Nat.lt_of_lt_of_le PA.lt sf32_0)
    have g_b32_0 : n0 ≤ b32_0 := Nat.le_trans Z0 sf32_0
    have f33_0 := Nat.le_trans Z0 K32.1
    have f33_1 := Sta_keep0 PC K32
    have f33_2 := Sta_keep0 PD K32
    have f33_3 := PA.keep K32 nin0
    have N32 := Fr.app N0 N32q
    refine Wp.back (U' := (T32.setTop (mkF m 13 #[.val (.int p0), .val (.int p1), .val (.int p2), .val (.int (1 : Int32)), .unset, .unset, .unset, .unset] [(.ref b32_0)]))) st32 ?_
    refine Wp.back (U' := (T32.setTop (mkF m 15 #[.val (.int p0), .val (.int p1), .val (.int p2), .val (.int (1 : Int32)), .val (.ref b32_0), .unset, .unset, .unset] []))) (fun t k => XS.astore X32.here hx rfl (hb hby at_13) rfl rfl (l' := #[.val (.int p0), .val (.int p1), .val (.int p2), .val (.int (1 : Int32)), .val (.ref b32_0), .unset, .unset, .unset]) rfl k) ?_
    obtain ⟨T34, h34, X34, e34, E34, A34, D34, -, st34⟩ := newO X32 hx hZ hown (hw _ (List.mem_of_getElem? (i := 26) rfl)) (hw _ (List.mem_of_getElem? (i := 27) rfl)) (hw _ (List.mem_of_getElem? (i := 28) rfl)) rfl (g := (mkF m 15 #[.val (.int p0), .val (.int p1), .val (.int p2), .val (.int (1 : Int32)), .val (.ref b32_0), .unset, .unset, .unset] [])) rfl (hb hby at_15) (by decide) (by decide)
    obtain ⟨b34, g34⟩ : ∃ z, z = T32.heap.size := ⟨_, rfl⟩
    rw [← g34] at A34 D34 st34
    have ne_de_b34 : de ≠ b34 := Nat.ne_of_lt (Nat.lt_of_lt_of_le f33_3.lt (Nat.le_of_eq g34.symm))
    have ne_b32_0_b34 : b32_0 ≠ b34 := Nat.ne_of_lt (Nat.lt_of_lt_of_le o32_0.lt (Nat.le_of_eq g34.symm))
    have g_b34 : n0 ≤ b34 := Nat.le_trans f33_0 (Nat.le_of_eq g34.symm)
    have f35_0 := Nat.le_trans f33_0 E34.1
    have f35_1 := f33_1.ext E34
    have f35_2 := f33_2.ext E34
    have f35_3 := f33_3.ext E34
    have f35_4 := o32_0.ext E34
    have F34_46 : Fld Z h34 b34 "java/util/AbstractList" "modCount" "I" (.int (0 : Int32)) := D34 (Or.inl (hw _ (List.mem_of_getElem? (i := 46) rfl))) (ty := .int) (by decide)
    have F34_49 : Fld Z h34 b34 "java/util/ArrayList" "elementData" "[Ljava/lang/Object;" .null := D34 (Or.inl (hw _ (List.mem_of_getElem? (i := 49) rfl))) (ty := (.array (.object "java/lang/Object"))) (by decide)
    have F34_76 : Fld Z h34 b34 "java/util/ArrayList" "size" "I" (.int (0 : Int32)) := D34 (Or.inl (hw _ (List.mem_of_getElem? (i := 76) rfl))) (ty := .int) (by decide)
    refine Wp.back (U' := (T34.setTop (mkF m 18 #[.val (.int p0), .val (.int p1), .val (.int p2), .val (.int (1 : Int32)), .val (.ref b32_0), .unset, .unset, .unset] [(.ref b34)]))) st34 ?_
    refine Wp.back (U' := (T34.setTop (mkF m 19 #[.val (.int p0), .val (.int p1), .val (.int p2), .val (.int (1 : Int32)), .val (.ref b32_0), .unset, .unset, .unset] [(.ref b34), (.ref b34)]))) (fun t k => XS.dup X34.here hx rfl (hb hby at_18) rfl rfl k) ?_
    obtain ⟨_, _, ⟨T36, L36, k36, n36⟩, -, X36, ⟨Lc36, hQ36, l36, y36, z36⟩, st36⟩ := X34.specialBack hx (y := (⟨"java/util/ArrayList", "<init>", "()V"⟩ : MethodName)) rfl hown (mvT hZ (hw _ (List.mem_of_getElem? (i := 29) rfl))) (mvT hZ (hw _ (List.mem_of_getElem? (i := 30) rfl))) (mvT hZ (hw _ (List.mem_of_getElem? (i := 31) rfl))) (by decide) (backOf (W := 1) (rm_al l Z a0 hw [] b34 de h34 n0 f35_0 A34 F34_46 F34_49 F34_76 f35_2 g_b34) hZ (hw _ (List.mem_of_getElem? (i := 31) rfl)) (hw _ (List.mem_of_getElem? (i := 28) rfl)) (by decide) (by decide)) (g := (mkF m 19 #[.val (.int p0), .val (.int p1), .val (.int p2), .val (.int (1 : Int32)), .val (.ref b32_0), .unset, .unset, .unset] [(.ref b34), (.ref b34)])) rfl (by rw [hml]; rfl) (Steps.refl _) (a := b34) (argsL := []) (rest := [(.ref b34)]) (lenOf pd0_1 rfl) rfl (by show 2 * 0 + _ ≤ _; exact Nat.le_of_eq rfl) (hb hby at_19) (fun _ _ => ⟨rfl, e34, (by decide : 3 + 0 ≤ _), (by decide : 8 + 0 ≤ _)⟩)
    dsimp only [Pt.U, Pt.locs, Pt.cells, Pt.slots] at X36 l36 y36 z36 st36 hQ36
    subst l36 y36 z36
    obtain ⟨rfl, N36q, K36, o36_0, o36_1, o36_2, o36_3⟩ := hQ36
    have f37_0 := Nat.le_trans f35_0 K36.1
    have f37_1 := Sta_keep f35_1 K36 (allS (Exa_ns A34) all0)
    have f37_2 := Sta_keep f35_2 K36 (allS (Exa_ns A34) all0)
    have f37_3 := f35_3.keep K36 (ninS ne_de_b34 nin0)
    have f37_4 := f35_4.keep K36
    have f37_5 := A34.keep K36
    have N36 := Fr.app N32 N36q
    refine Wp.back (U' := (T36.setTop (mkF m 22 #[.val (.int p0), .val (.int p1), .val (.int p2), .val (.int (1 : Int32)), .val (.ref b32_0), .unset, .unset, .unset] [(.ref b34)]))) (fun t k => st36.trans k) ?_
    refine Wp.back (U' := (T36.setTop (mkF m 30 #[.val (.int p0), .val (.int p1), .val (.int p2), .val (.int (1 : Int32)), .val (.ref b32_0), .val (.ref b34), .unset, .unset] [(.ref b34)]))) (fun t k => XS.astore X36.here hx rfl (hb hby at_22) rfl rfl (l' := #[.val (.int p0), .val (.int p1), .val (.int p2), .val (.int (1 : Int32)), .val (.ref b32_0), .val (.ref b34), .unset, .unset]) rfl (XS.iloadN X36.here hx rfl (hb hby at_24) rfl (XS.ifNo X36.here hx rfl (hb hby at_25) rfl ((if0 _ _).trans (tlt (by decide)).2.2.2) (XS.aload X36.here hx rfl (hb hby at_28) rfl rfl k)))) ?_
    obtain ⟨T38, h38, X38, e38, E38, A38, D38, -, st38⟩ := newO X36 hx hZ hown (hw _ (List.mem_of_getElem? (i := 50) rfl)) (hw _ (List.mem_of_getElem? (i := 51) rfl)) (hw _ (List.mem_of_getElem? (i := 52) rfl)) rfl (g := (mkF m 30 #[.val (.int p0), .val (.int p1), .val (.int p2), .val (.int (1 : Int32)), .val (.ref b32_0), .val (.ref b34), .unset, .unset] [(.ref b34)])) rfl (hb hby at_30) (by decide) (by decide)
    obtain ⟨b38, g38⟩ : ∃ z, z = T36.heap.size := ⟨_, rfl⟩
    rw [← g38] at A38 D38 st38
    have ne_de_b38 : de ≠ b38 := Nat.ne_of_lt (Nat.lt_of_lt_of_le f37_3.lt (Nat.le_of_eq g38.symm))
    have ne_b32_0_b38 : b32_0 ≠ b38 := Nat.ne_of_lt (Nat.lt_of_lt_of_le f37_4.lt (Nat.le_of_eq g38.symm))
    have ne_b34_b38 : b34 ≠ b38 := Nat.ne_of_lt (Nat.lt_of_lt_of_le o36_0.lt (Nat.le_of_eq g38.symm))
    have g_b38 : n0 ≤ b38 := Nat.le_trans f37_0 (Nat.le_of_eq g38.symm)
    have f39_0 := Nat.le_trans f37_0 E38.1
    have f39_1 := f37_1.ext E38
    have f39_2 := f37_2.ext E38
    have f39_3 := f37_3.ext E38
    have f39_4 := f37_4.ext E38
    have f39_5 := o36_0.ext E38
    have f39_6 := o36_1.ext E38
    have f39_7 := o36_2.ext E38
    have f39_8 := o36_3.ext E38
    have F38_63 : Fld Z h38 b38 "com/example/treewright/treewright/schema/AugmentTarget$Step" "prefix" "Ljava/lang/String;" .null := D38 (Or.inr (hw _ (List.mem_of_getElem? (i := 63) rfl))) (ty := (.object "java/lang/String")) (by decide)
    have F38_65 : Fld Z h38 b38 "com/example/treewright/treewright/schema/AugmentTarget$Step" "module" "Ljava/lang/String;" .null := D38 (Or.inr (hw _ (List.mem_of_getElem? (i := 65) rfl))) (ty := (.object "java/lang/String")) (by decide)
    have F38_67 : Fld Z h38 b38 "com/example/treewright/treewright/schema/AugmentTarget$Step" "name" "Ljava/lang/String;" .null := D38 (Or.inr (hw _ (List.mem_of_getElem? (i := 67) rfl))) (ty := (.object "java/lang/String")) (by decide)
    refine Wp.back (U' := (T38.setTop (mkF m 33 #[.val (.int p0), .val (.int p1), .val (.int p2), .val (.int (1 : Int32)), .val (.ref b32_0), .val (.ref b34), .unset, .unset] [(.ref b38), (.ref b34)]))) st38 ?_
    refine Wp.back (U' := (T38.setTop (mkF m 40 #[.val (.int p0), .val (.int p1), .val (.int p2), .val (.int (1 : Int32)), .val (.ref b32_0), .val (.ref b34), .unset, .unset] [(.ref b32_0), (.ref b32_0), (.ref b32_0), (.ref b38), (.ref b38), (.ref b34)]))) (fun t k => XS.dup X38.here hx rfl (hb hby at_33) rfl rfl (XS.aload X38.here hx rfl (hb hby at_34) rfl rfl (XS.aload X38.here hx rfl (hb hby at_36) rfl rfl (XS.aload X38.here hx rfl (hb hby at_38) rfl rfl k)))) ?_
    obtain ⟨_, _, ⟨T40, L40, k40, n40⟩, -, X40, ⟨Lc40, hQ40, l40, y40, z40⟩, st40⟩ := X38.specialBack hx (y := (⟨"com/example/treewright/treewright/schema/AugmentTarget$Step", "<init>", "(Ljava/lang/String;Ljava/lang/String;Ljava/lang/String;)V"⟩ : MethodName)) rfl hown (mvT hZ (hw _ (List.mem_of_getElem? (i := 53) rfl))) (mvT hZ (hw _ (List.mem_of_getElem? (i := 54) rfl))) (mvT hZ (hw _ (List.mem_of_getElem? (i := 55) rfl))) (by decide) (backOf (W := 2) (rm_sp l Z a0 hw [] b38 b32_0 b32_0 b32_0  h38 n0 f39_0 A38 F38_63 F38_65 F38_67 g_b38) hZ (hw _ (List.mem_of_getElem? (i := 55) rfl)) (hw _ (List.mem_of_getElem? (i := 52) rfl)) (by decide) (by decide)) (g := (mkF m 40 #[.val (.int p0), .val (.int p1), .val (.int p2), .val (.int (1 : Int32)), .val (.ref b32_0), .val (.ref b34), .unset, .unset] [(.ref b32_0), (.ref b32_0), (.ref b32_0), (.ref b38), (.ref b38), (.ref b34)])) rfl (by rw [hml]; rfl) (Steps.refl _) (a := b38) (argsL := [(.ref b32_0), (.ref b32_0), (.ref b32_0)]) (rest := [(.ref b38), (.ref b34)]) (lenOf pd0_6 rfl) rfl (by show 2 * 0 + _ ≤ _; exact Nat.le_of_eq rfl) (hb hby at_40) (fun _ _ => ⟨rfl, e38, (by decide : 4 + 0 ≤ _), (by decide : 11 + 0 ≤ _)⟩)
    dsimp only [Pt.U, Pt.locs, Pt.cells, Pt.slots] at X40 l40 y40 z40 st40 hQ40
    subst l40 y40 z40
    obtain ⟨rfl, N40q, K40, o40_0⟩ := hQ40
    have f41_0 := Nat.le_trans f39_0 K40.1
    have f41_1 := Sta_keep f39_1 K40 (allS (Exa_ns A38) all0)
    have f41_2 := Sta_keep f39_2 K40 (allS (Exa_ns A38) all0)
    have f41_3 := f39_3.keep K40 (ninS ne_de_b38 nin0)
    have f41_4 := f39_4.keep K40
    have f41_5 := f39_5.keep K40
    have f41_6 := f39_6.keep K40 (ninS ne_b34_b38 nin0)
    have f41_7 := f39_7.keep K40 (ninS ne_b34_b38 nin0)
    have f41_8 := f39_8.keep K40 (ninS ne_b34_b38 nin0)
    have f41_9 := A38.keep K40
    have N40 := Fr.app N36 N40q
    refine Wp.back (U' := (T40.setTop (mkF m 43 #[.val (.int p0), .val (.int p1), .val (.int p2), .val (.int (1 : Int32)), .val (.ref b32_0), .val (.ref b34), .unset, .unset] [(.ref b38), (.ref b34)]))) (fun t k => st40.trans k) ?_
    obtain ⟨cq42, kq42, q42a, q42b, q42c⟩ := isOf hZ rfl f41_5
    obtain ⟨_, _, ⟨T42, L42, k42, n42⟩, -, X42, ⟨Lc42, hQ42, l42, y42, z42⟩, st42⟩ := X40.virtualBack hx (y := (⟨"java/util/ArrayList", "add", "(Ljava/lang/Object;)Z"⟩ : MethodName)) (z := (⟨"java/util/ArrayList", "add", "(Ljava/lang/Object;)Z"⟩ : MethodName)) hown (mvT hZ (hw _ (List.mem_of_getElem? (i := 68) rfl))) (mvT hZ (hw _ (List.mem_of_getElem? (i := 69) rfl))) (notFace_of_selects (args := #[]) (mvT hZ (hw _ (List.mem_of_getElem? (i := 71) rfl)))) (mvT hZ (hw _ (List.mem_of_getElem? (i := 71) rfl))) (mvT hZ (hw _ (List.mem_of_getElem? (i := 70) rfl))) (by decide) (backOf (W := 0) (rm_ad0 l Z a0 hw [] b34 b38 de ke T40.heap n0 f41_0 f41_5 o40_0 f41_7 f41_8 f41_2 f41_3 f41_6 g_b34 (Ne.symm ne_b34_b38) (Ne.symm ne_de_b34)) hZ (hw _ (List.mem_of_getElem? (i := 72) rfl)) (hw _ (List.mem_of_getElem? (i := 28) rfl)) (by decide) (by decide)) q42a q42c (g := (mkF m 43 #[.val (.int p0), .val (.int p1), .val (.int p2), .val (.int (1 : Int32)), .val (.ref b32_0), .val (.ref b34), .unset, .unset] [(.ref b38), (.ref b34)])) rfl (by rw [hml]; rfl) (Steps.refl _) (argsL := [(.ref b38)]) (rest := []) (lenOf pd0_7 rfl) rfl (by show 2 * 0 + _ ≤ _; exact Nat.le_of_eq rfl) (hb hby at_43) (fun _ _ => ⟨rfl, rfl, (by decide : 4 + 1 ≤ _), (by decide : 11 + 10 ≤ _)⟩)
    dsimp only [Pt.U, Pt.locs, Pt.cells, Pt.slots] at X42 l42 y42 z42 st42 hQ42
    subst l42 y42 z42
    obtain ⟨b42_0, k42_0, rfl, N42q, K42, sf42_0, o42_0, o42_1, o42_2, o42_3, o42_4, o42_5⟩ := hQ42
    have ne_de_b42_0 : de ≠ b42_0 := Nat.ne_of_lt (Nat.lt_of_lt_of_le f41_3.lt sf42_0)
    have ne_b32_0_b42_0 : b32_0 ≠ b42_0 := Nat.ne_of_lt (Nat.lt_of_lt_of_le f41_4.lt sf42_0)
    have ne_b34_b42_0 : b34 ≠ b42_0 := Nat.ne_of_lt (Nat.lt_of_lt_of_le f41_5.lt sf42_0)
    have ne_b38_b42_0 : b38 ≠ b42_0 := Nat.ne_of_lt (Nat.lt_of_lt_of_le o40_0.lt sf42_0)
    have g_b42_0 : n0 ≤ b42_0 := Nat.le_trans f41_0 sf42_0
    have f43_0 := Nat.le_trans f41_0 K42.1
    have f43_1 := Sta_keep f41_1 K42 (allS (Exa_ns f41_5) all0)
    have f43_2 := Sta_keep f41_2 K42 (allS (Exa_ns f41_5) all0)
    have f43_3 := f41_3.keep K42 (ninS ne_de_b34 nin0)
    have f43_4 := f41_4.keep K42
    have f43_5 := f41_5.keep K42
    have f43_9 := o40_0.keep K42
    have N42 := Fr.app N40 N42q
    refine Wp.back (U' := (T42.setTop (mkF m 46 #[.val (.int p0), .val (.int p1), .val (.int p2), .val (.int (1 : Int32)), .val (.ref b32_0), .val (.ref b34), .unset, .unset] [(.int (1 : Int32))]))) (fun t k => st42.trans k) ?_
    refine Wp.back (U' := (T42.setTop (mkF m 95 #[.val (.int p0), .val (.int p1), .val (.int p2), .val (.int (1 : Int32)), .val (.ref b32_0), .val (.ref b34), .unset, .unset] []))) (fun t k => XS.pop X42.here hx rfl (hb hby at_46) rfl rfl (XS.iloadN X42.here hx rfl (hb hby at_47) rfl (XT.iconstV X42.here hx rfl (1 : Int32) (hb hby at_48) (by decide) (XS.icmpYes X42.here hx rfl (pc0 := 49) (pc' := 71) rfl (hb hby at_49) rfl (flt (by decide)).2.2.2 (by decide) (by decide) (XS.iloadN X42.here hx rfl (hb hby at_71) rfl (XT.iconstV X42.here hx rfl (2 : Int32) (hb hby at_72) (by decide) (XS.icmpYes X42.here hx rfl (pc0 := 73) (pc' := 95) rfl (hb hby at_73) rfl (flt (by decide)).2.2.2 (by decide) (by decide) k))))))) ?_
    obtain ⟨T44, h44, X44, e44, E44, A44, D44, -, st44⟩ := newO X42 hx hZ hown (hw _ (List.mem_of_getElem? (i := 99) rfl)) (hw _ (List.mem_of_getElem? (i := 100) rfl)) (hw _ (List.mem_of_getElem? (i := 101) rfl)) rfl (g := (mkF m 95 #[.val (.int p0), .val (.int p1), .val (.int p2), .val (.int (1 : Int32)), .val (.ref b32_0), .val (.ref b34), .unset, .unset] [])) rfl (hb hby at_95) (by decide) (by decide)
    obtain ⟨b44, g44⟩ : ∃ z, z = T42.heap.size := ⟨_, rfl⟩
    rw [← g44] at A44 D44 st44
    have ne_de_b44 : de ≠ b44 := Nat.ne_of_lt (Nat.lt_of_lt_of_le f43_3.lt (Nat.le_of_eq g44.symm))
    have ne_b32_0_b44 : b32_0 ≠ b44 := Nat.ne_of_lt (Nat.lt_of_lt_of_le f43_4.lt (Nat.le_of_eq g44.symm))
    have ne_b34_b44 : b34 ≠ b44 := Nat.ne_of_lt (Nat.lt_of_lt_of_le o42_0.lt (Nat.le_of_eq g44.symm))
    have ne_b38_b44 : b38 ≠ b44 := Nat.ne_of_lt (Nat.lt_of_lt_of_le f43_9.lt (Nat.le_of_eq g44.symm))
    have ne_b42_0_b44 : b42_0 ≠ b44 := Nat.ne_of_lt (Nat.lt_of_lt_of_le o42_4.lt (Nat.le_of_eq g44.symm))
    have g_b44 : n0 ≤ b44 := Nat.le_trans f43_0 (Nat.le_of_eq g44.symm)
    have f45_0 := Nat.le_trans f43_0 E44.1
    have f45_1 := f43_1.ext E44
    have f45_2 := f43_2.ext E44
    have f45_3 := f43_3.ext E44
    have f45_4 := f43_4.ext E44
    have f45_5 := o42_0.ext E44
    have f45_6 := f43_9.ext E44
    have f45_7 := o42_1.ext E44
    have f45_8 := o42_2.ext E44
    have f45_9 := o42_3.ext E44
    have f45_10 := o42_4.ext E44
    have F44_107 : Fld Z h44 b44 "com/example/treewright/treewright/schema/AugmentTarget$Path" "steps" "Ljava/util/List;" .null := D44 (Or.inr (hw _ (List.mem_of_getElem? (i := 107) rfl))) (ty := (.object "java/util/List")) (by decide)
    have F44_109 : Fld Z h44 b44 "com/example/treewright/treewright/schema/AugmentTarget$Path" "ownFrom" "I" (.int (0 : Int32)) := D44 (Or.inr (hw _ (List.mem_of_getElem? (i := 109) rfl))) (ty := .int) (by decide)
    refine Wp.back (U' := (T44.setTop (mkF m 98 #[.val (.int p0), .val (.int p1), .val (.int p2), .val (.int (1 : Int32)), .val (.ref b32_0), .val (.ref b34), .unset, .unset] [(.ref b44)]))) st44 ?_
    refine Wp.back (U' := (T44.setTop (mkF m 102 #[.val (.int p0), .val (.int p1), .val (.int p2), .val (.int (1 : Int32)), .val (.ref b32_0), .val (.ref b34), .unset, .unset] [(.int p0), (.ref b34), (.ref b44), (.ref b44)]))) (fun t k => XS.dup X44.here hx rfl (hb hby at_98) rfl rfl (XS.aload X44.here hx rfl (hb hby at_99) rfl rfl (XS.iloadN X44.here hx rfl (hb hby at_101) rfl k))) ?_
    obtain ⟨_, _, ⟨T46, L46, k46, n46⟩, -, X46, ⟨Lc46, hQ46, l46, y46, z46⟩, st46⟩ := X44.specialBack hx (y := (⟨"com/example/treewright/treewright/schema/AugmentTarget$Path", "<init>", "(Ljava/util/List;I)V"⟩ : MethodName)) rfl hown (mvT hZ (hw _ (List.mem_of_getElem? (i := 102) rfl))) (mvT hZ (hw _ (List.mem_of_getElem? (i := 103) rfl))) (mvT hZ (hw _ (List.mem_of_getElem? (i := 104) rfl))) (by decide) (backOf (W := 1) (rm_pt l Z a0 hw [] b44 b34 p0  h44 n0 f45_0 A44 F44_107 F44_109 g_b44) hZ (hw _ (List.mem_of_getElem? (i := 104) rfl)) (hw _ (List.mem_of_getElem? (i := 101) rfl)) (by decide) (by decide)) (g := (mkF m 102 #[.val (.int p0), .val (.int p1), .val (.int p2), .val (.int (1 : Int32)), .val (.ref b32_0), .val (.ref b34), .unset, .unset] [(.int p0), (.ref b34), (.ref b44), (.ref b44)])) rfl (by rw [hml]; rfl) (Steps.refl _) (a := b44) (argsL := [(.ref b34), (.int p0)]) (rest := [(.ref b44)]) (lenOf pd0_2 rfl) rfl (by show 2 * 0 + _ ≤ _; exact Nat.le_of_eq rfl) (hb hby at_102) (fun _ _ => ⟨rfl, e44, (by decide : 6 + 0 ≤ _), (by decide : 23 + 0 ≤ _)⟩)
    dsimp only [Pt.U, Pt.locs, Pt.cells, Pt.slots] at X46 l46 y46 z46 st46 hQ46
    subst l46 y46 z46
    obtain ⟨rfl, N46q, K46, o46_0, o46_1, o46_2⟩ := hQ46
    have f47_0 := Nat.le_trans f45_0 K46.1
    have f47_1 := Sta_keep f45_1 K46 (allS (Exa_ns A44) all0)
    have f47_2 := Sta_keep f45_2 K46 (allS (Exa_ns A44) all0)
    have f47_3 := f45_3.keep K46 (ninS ne_de_b44 nin0)
    have f47_4 := f45_4.keep K46
    have f47_5 := f45_5.keep K46
    have f47_6 := f45_6.keep K46
    have f47_7 := f45_7.keep K46 (ninS ne_b34_b44 nin0)
    have f47_8 := f45_8.keep K46 (ninS ne_b34_b44 nin0)
    have f47_9 := f45_9.keep K46 (ninS ne_b34_b44 nin0)
    have f47_10 := f45_10.keep K46 (ninS ne_b42_0_b44 nin0)
    have f47_12 := A44.keep K46
    have N46 := Fr.app N42 N46q
    refine Wp.back (U' := (T46.setTop (mkF m 105 #[.val (.int p0), .val (.int p1), .val (.int p2), .val (.int (1 : Int32)), .val (.ref b32_0), .val (.ref b34), .unset, .unset] [(.ref b44)]))) (fun t k => st46.trans k) ?_
    refine Wp.back (U' := (T46.setTop (mkF m 108 #[.val (.int p0), .val (.int p1), .val (.int p2), .val (.int (1 : Int32)), .val (.ref b32_0), .val (.ref b34), .val (.ref b44), .unset] [(.int p0)]))) (fun t k => XS.astore X46.here hx rfl (hb hby at_105) rfl rfl (l' := #[.val (.int p0), .val (.int p1), .val (.int p2), .val (.int (1 : Int32)), .val (.ref b32_0), .val (.ref b34), .val (.ref b44), .unset]) rfl (XS.iloadN X46.here hx rfl (hb hby at_107) rfl k)) ?_
    by_cases c108_48 : p0 = (0 : Int32)
    · refine Wp.back (U' := (T46.setTop (mkF m 120 #[.val (.int p0), .val (.int p1), .val (.int p2), .val (.int (1 : Int32)), .val (.ref b32_0), .val (.ref b34), .val (.ref b44), .val (.int (1 : Int32))] [(.ref b44)]))) (fun t k => XS.ifNo X46.here hx rfl (hb hby at_108) rfl ((if0 _ _).trans (teq c108_48).2) (XT.iconstV X46.here hx rfl (1 : Int32) (hb hby at_111) (by decide) (XS.goto X46.here hx rfl (pc0 := 112) (pc' := 116) rfl (hb hby at_112) (by decide) (by decide) (XS.istore X46.here hx rfl (hb hby at_116) rfl (l' := #[.val (.int p0), .val (.int p1), .val (.int p2), .val (.int (1 : Int32)), .val (.ref b32_0), .val (.ref b34), .val (.ref b44), .val (.int (1 : Int32))]) rfl (XS.aload X46.here hx rfl (hb hby at_118) rfl rfl k))))) ?_
      obtain ⟨cq49, kq49, q49a, q49b, q49c⟩ := isOf hZ rfl o46_0
      obtain ⟨_, _, ⟨T49, L49, k49, n49⟩, -, X49, ⟨Lc49, hQ49, l49, y49, z49⟩, st49⟩ := X46.virtualBack hx (y := (⟨"com/example/treewright/treewright/schema/AugmentTarget$Path", "startsOwn", "()Z"⟩ : MethodName)) (z := (⟨"com/example/treewright/treewright/schema/AugmentTarget$Path", "startsOwn", "()Z"⟩ : MethodName)) hown (mvT hZ (hw _ (List.mem_of_getElem? (i := 110) rfl))) (mvT hZ (hw _ (List.mem_of_getElem? (i := 111) rfl))) (notFace_of_selects (args := #[]) (mvT hZ (hw _ (List.mem_of_getElem? (i := 113) rfl)))) (mvT hZ (hw _ (List.mem_of_getElem? (i := 113) rfl))) (mvT hZ (hw _ (List.mem_of_getElem? (i := 112) rfl))) (by decide) (backOf (W := 0) (rm_so1 l Z a0 hw [] b44 p0 T46.heap n0 f47_0 o46_2 c108_48) hZ (hw _ (List.mem_of_getElem? (i := 114) rfl)) (hw _ (List.mem_of_getElem? (i := 101) rfl)) (by decide) (by decide)) q49a q49c (g := (mkF m 120 #[.val (.int p0), .val (.int p1), .val (.int p2), .val (.int (1 : Int32)), .val (.ref b32_0), .val (.ref b34), .val (.ref b44), .val (.int (1 : Int32))] [(.ref b44)])) rfl (by rw [hml]; rfl) (Steps.refl _) (argsL := []) (rest := []) (lenOf pd0_3 rfl) rfl (by show 2 * 0 + _ ≤ _; exact Nat.le_of_eq rfl) (hb hby at_120) (fun _ _ => ⟨rfl, rfl, (by decide : 6 + 0 ≤ _), (by decide : 23 + 0 ≤ _)⟩)
      dsimp only [Pt.U, Pt.locs, Pt.cells, Pt.slots] at X49 l49 y49 z49 st49 hQ49
      subst l49 y49 z49
      obtain ⟨rfl, N49q, K49⟩ := hQ49
      have f50_0 := Nat.le_trans f47_0 K49.1
      have f50_1 := Sta_keep0 f47_1 K49
      have f50_2 := Sta_keep0 f47_2 K49
      have f50_3 := f47_3.keep K49 nin0
      have f50_4 := f47_4.keep K49
      have f50_5 := f47_5.keep K49
      have f50_6 := f47_6.keep K49
      have f50_7 := f47_7.keep K49 nin0
      have f50_8 := f47_8.keep K49 nin0
      have f50_9 := f47_9.keep K49 nin0
      have f50_10 := f47_10.keep K49 nin0
      have f50_12 := o46_0.keep K49
      have f50_13 := o46_1.keep K49 nin0
      have f50_14 := o46_2.keep K49 nin0
      have N49 := Fr.app N46 N49q
      refine Wp.back (U' := (T49.setTop (mkF m 123 #[.val (.int p0), .val (.int p1), .val (.int p2), .val (.int (1 : Int32)), .val (.ref b32_0), .val (.ref b34), .val (.ref b44), .val (.int (1 : Int32))] [(.int (1 : Int32))]))) (fun t k => st49.trans k) ?_
      refine Wp.back (U' := (T49.setTop (mkF m 130 #[.val (.int p0), .val (.int p1), .val (.int p2), .val (.int (1 : Int32)), .val (.ref b32_0), .val (.ref b34), .val (.ref b44), .val (.int (1 : Int32))] [(.ref b44)]))) (fun t k => XS.iload X49.here hx rfl (hb hby at_123) rfl (XS.icmpNo X49.here hx rfl (hb hby at_125) rfl (teq (by decide)).2 (XS.aload X49.here hx rfl (hb hby at_128) rfl rfl k))) ?_
      obtain ⟨cq51, kq51, q51a, q51b, q51c⟩ := isOf hZ rfl f50_12
      obtain ⟨_, _, ⟨T51, L51, k51, n51⟩, -, X51, ⟨Lc51, hQ51, l51, y51, z51⟩, st51⟩ := X49.virtualBack hx (y := (⟨"com/example/treewright/treewright/schema/AugmentTarget$Path", "ownFrom", "()I"⟩ : MethodName)) (z := (⟨"com/example/treewright/treewright/schema/AugmentTarget$Path", "ownFrom", "()I"⟩ : MethodName)) hown (mvT hZ (hw _ (List.mem_of_getElem? (i := 115) rfl))) (mvT hZ (hw _ (List.mem_of_getElem? (i := 116) rfl))) (notFace_of_selects (args := #[]) (mvT hZ (hw _ (List.mem_of_getElem? (i := 118) rfl)))) (mvT hZ (hw _ (List.mem_of_getElem? (i := 118) rfl))) (mvT hZ (hw _ (List.mem_of_getElem? (i := 117) rfl))) (by decide) (backOf (W := 0) (rm_of l Z a0 hw [] b44 p0 T49.heap n0 f50_0 f50_14) hZ (hw _ (List.mem_of_getElem? (i := 119) rfl)) (hw _ (List.mem_of_getElem? (i := 101) rfl)) (by decide) (by decide)) q51a q51c (g := (mkF m 130 #[.val (.int p0), .val (.int p1), .val (.int p2), .val (.int (1 : Int32)), .val (.ref b32_0), .val (.ref b34), .val (.ref b44), .val (.int (1 : Int32))] [(.ref b44)])) rfl (by rw [hml]; rfl) (Steps.refl _) (argsL := []) (rest := []) (lenOf pd0_4 rfl) rfl (by show 2 * 0 + _ ≤ _; exact Nat.le_of_eq rfl) (hb hby at_130) (fun _ _ => ⟨rfl, rfl, (by decide : 6 + 0 ≤ _), (by decide : 23 + 0 ≤ _)⟩)
      dsimp only [Pt.U, Pt.locs, Pt.cells, Pt.slots] at X51 l51 y51 z51 st51 hQ51
      subst l51 y51 z51
      obtain ⟨rfl, N51q, K51⟩ := hQ51
      have f52_0 := Nat.le_trans f50_0 K51.1
      have f52_1 := Sta_keep0 f50_1 K51
      have f52_2 := Sta_keep0 f50_2 K51
      have f52_3 := f50_3.keep K51 nin0
      have f52_4 := f50_4.keep K51
      have f52_5 := f50_5.keep K51
      have f52_6 := f50_6.keep K51
      have f52_7 := f50_7.keep K51 nin0
      have f52_8 := f50_8.keep K51 nin0
      have f52_9 := f50_9.keep K51 nin0
      have f52_10 := f50_10.keep K51 nin0
      have f52_12 := f50_12.keep K51
      have f52_13 := f50_13.keep K51 nin0
      have f52_14 := f50_14.keep K51 nin0
      have N51 := Fr.app N49 N51q
      refine Wp.back (U' := (T51.setTop (mkF m 133 #[.val (.int p0), .val (.int p1), .val (.int p2), .val (.int (1 : Int32)), .val (.ref b32_0), .val (.ref b34), .val (.ref b44), .val (.int (1 : Int32))] [(.int p0)]))) (fun t k => st51.trans k) ?_
      refine Wp.back (U' := (T51.setTop (mkF m 139 #[.val (.int p0), .val (.int p1), .val (.int p2), .val (.int (1 : Int32)), .val (.ref b32_0), .val (.ref b34), .val (.ref b44), .val (.int (1 : Int32))] [(.ref b44)]))) (fun t k => XS.iloadN X51.here hx rfl (hb hby at_133) rfl (XS.icmpNo X51.here hx rfl (hb hby at_134) rfl (teq (rfl : p0 = p0)).2 (XS.aload X51.here hx rfl (hb hby at_137) rfl rfl k))) ?_
      obtain ⟨cq53, kq53, q53a, q53b, q53c⟩ := isOf hZ rfl f52_12
      obtain ⟨_, _, ⟨T53, L53, k53, n53⟩, -, X53, ⟨Lc53, hQ53, l53, y53, z53⟩, st53⟩ := X51.virtualBack hx (y := (⟨"com/example/treewright/treewright/schema/AugmentTarget$Path", "steps", "()Ljava/util/List;"⟩ : MethodName)) (z := (⟨"com/example/treewright/treewright/schema/AugmentTarget$Path", "steps", "()Ljava/util/List;"⟩ : MethodName)) hown (mvT hZ (hw _ (List.mem_of_getElem? (i := 120) rfl))) (mvT hZ (hw _ (List.mem_of_getElem? (i := 121) rfl))) (notFace_of_selects (args := #[]) (mvT hZ (hw _ (List.mem_of_getElem? (i := 123) rfl)))) (mvT hZ (hw _ (List.mem_of_getElem? (i := 123) rfl))) (mvT hZ (hw _ (List.mem_of_getElem? (i := 122) rfl))) (by decide) (backOf (W := 0) (rm_ss l Z a0 hw [] b44 b34 T51.heap n0 f52_0 f52_13) hZ (hw _ (List.mem_of_getElem? (i := 124) rfl)) (hw _ (List.mem_of_getElem? (i := 101) rfl)) (by decide) (by decide)) q53a q53c (g := (mkF m 139 #[.val (.int p0), .val (.int p1), .val (.int p2), .val (.int (1 : Int32)), .val (.ref b32_0), .val (.ref b34), .val (.ref b44), .val (.int (1 : Int32))] [(.ref b44)])) rfl (by rw [hml]; rfl) (Steps.refl _) (argsL := []) (rest := []) (lenOf pd0_5 rfl) rfl (by show 2 * 0 + _ ≤ _; exact Nat.le_of_eq rfl) (hb hby at_139) (fun _ _ => ⟨rfl, rfl, (by decide : 6 + 0 ≤ _), (by decide : 23 + 0 ≤ _)⟩)
      dsimp only [Pt.U, Pt.locs, Pt.cells, Pt.slots] at X53 l53 y53 z53 st53 hQ53
      subst l53 y53 z53
      obtain ⟨rfl, N53q, K53⟩ := hQ53
      have f54_0 := Nat.le_trans f52_0 K53.1
      have f54_1 := Sta_keep0 f52_1 K53
      have f54_2 := Sta_keep0 f52_2 K53
      have f54_3 := f52_3.keep K53 nin0
      have f54_4 := f52_4.keep K53
      have f54_5 := f52_5.keep K53
      have f54_6 := f52_6.keep K53
      have f54_7 := f52_7.keep K53 nin0
      have f54_8 := f52_8.keep K53 nin0
      have f54_9 := f52_9.keep K53 nin0
      have f54_10 := f52_10.keep K53 nin0
      have f54_12 := f52_12.keep K53
      have f54_13 := f52_13.keep K53 nin0
      have f54_14 := f52_14.keep K53 nin0
      have N53 := Fr.app N51 N53q
      refine Wp.back (U' := (T53.setTop (mkF m 142 #[.val (.int p0), .val (.int p1), .val (.int p2), .val (.int (1 : Int32)), .val (.ref b32_0), .val (.ref b34), .val (.ref b44), .val (.int (1 : Int32))] [(.ref b34)]))) (fun t k => st53.trans k) ?_
      obtain ⟨cq55, kq55, q55a, q55b, q55c⟩ := isOf hZ rfl f54_5
      obtain ⟨_, _, ⟨T55, L55, k55, n55⟩, -, X55, ⟨Lc55, hQ55, l55, y55, z55⟩, st55⟩ := X53.interfaceBack hx (xi := (⟨"java/util/List", "size", "()I"⟩ : MethodName)) (y := (⟨"java/util/ArrayList", "size", "()I"⟩ : MethodName)) hown (mvT hZ (hw _ (List.mem_of_getElem? (i := 125) rfl))) (mvT hZ (hw _ (List.mem_of_getElem? (i := 126) rfl))) (mvT hZ (hw _ (List.mem_of_getElem? (i := 127) rfl))) (mvT hZ (hw _ (List.mem_of_getElem? (i := 128) rfl))) (mvT hZ (hw _ (List.mem_of_getElem? (i := 129) rfl))) (mvT hZ (hw _ (List.mem_of_getElem? (i := 130) rfl))) (mvT hZ (hw _ (List.mem_of_getElem? (i := 131) rfl))) (mvT hZ (hw _ (List.mem_of_getElem? (i := 132) rfl))) (by decide) (backOf (W := 0) (rm_sz1 l Z a0 hw [] b34  T53.heap n0 f54_0 f54_9) hZ (hw _ (List.mem_of_getElem? (i := 133) rfl)) (hw _ (List.mem_of_getElem? (i := 28) rfl)) (by decide) (by decide)) q55a q55b q55c (g := (mkF m 142 #[.val (.int p0), .val (.int p1), .val (.int p2), .val (.int (1 : Int32)), .val (.ref b32_0), .val (.ref b34), .val (.ref b44), .val (.int (1 : Int32))] [(.ref b34)])) rfl (by rw [hml]; rfl) (Steps.refl _) (argsL := []) (rest := []) (lenOf pd0_4 rfl) rfl (by show 2 * 0 + _ ≤ _; exact Nat.le_of_eq rfl) (hb hby at_142) (fun _ _ => ⟨rfl, rfl, (by decide : 6 + 0 ≤ _), (by decide : 23 + 0 ≤ _)⟩)
      dsimp only [Pt.U, Pt.locs, Pt.cells, Pt.slots] at X55 l55 y55 z55 st55 hQ55
      subst l55 y55 z55
      obtain ⟨rfl, N55q, K55⟩ := hQ55
      have f56_0 := Nat.le_trans f54_0 K55.1
      have f56_1 := Sta_keep0 f54_1 K55
      have f56_2 := Sta_keep0 f54_2 K55
      have f56_3 := f54_3.keep K55 nin0
      have f56_4 := f54_4.keep K55
      have f56_5 := f54_5.keep K55
      have f56_6 := f54_6.keep K55
      have f56_7 := f54_7.keep K55 nin0
      have f56_8 := f54_8.keep K55 nin0
      have f56_9 := f54_9.keep K55 nin0
      have f56_10 := f54_10.keep K55 nin0
      have f56_12 := f54_12.keep K55
      have f56_13 := f54_13.keep K55 nin0
      have f56_14 := f54_14.keep K55 nin0
      have N55 := Fr.app N53 N55q
      refine Wp.back (U' := (T55.setTop (mkF m 147 #[.val (.int p0), .val (.int p1), .val (.int p2), .val (.int (1 : Int32)), .val (.ref b32_0), .val (.ref b34), .val (.ref b44), .val (.int (1 : Int32))] [(.int (1 : Int32))]))) (fun t k => st55.trans k) ?_
      refine Wp.back (U' := (T55.setTop (mkF m 156 #[.val (.int p0), .val (.int p1), .val (.int p2), .val (.int (1 : Int32)), .val (.ref b32_0), .val (.ref b34), .val (.ref b44), .val (.int (1 : Int32))] [(.int (1 : Int32))]))) (fun t k => XS.iloadN X55.here hx rfl (hb hby at_147) rfl (XS.icmpNo X55.here hx rfl (hb hby at_148) rfl (teq (by decide)).2 (XT.iconstV X55.here hx rfl (1 : Int32) (hb hby at_151) (by decide) (XS.goto X55.here hx rfl (pc0 := 152) (pc' := 156) rfl (hb hby at_152) (by decide) (by decide) k)))) ?_
      obtain ⟨fs, hr, hrun, hended, hW, hsame⟩ := X55.leave (v := (some (.int (1 : Int32)))) (fun h => by rw [hret] at h; cases h)
      refine Wp.done (retN X55 hx (t := .boolean) hret (by simp) (hb hby at_156) hr) hrun hended ⟨_, _, rfl, ?_, ⟨_, rfl⟩, hW, hsame.mono (by decide) (by decide)⟩
      show QL n0 _ T55.heap _
      exact ⟨rfl, N55⟩
    · refine Wp.back (U' := (T46.setTop (mkF m 120 #[.val (.int p0), .val (.int p1), .val (.int p2), .val (.int (1 : Int32)), .val (.ref b32_0), .val (.ref b34), .val (.ref b44), .val (.int (0 : Int32))] [(.ref b44)]))) (fun t k => XS.ifYes X46.here hx rfl (pc0 := 108) (pc' := 115) rfl (hb hby at_108) rfl ((if0 _ _).trans (feq c108_48).2) (by decide) (by decide) (XT.iconstV X46.here hx rfl (0 : Int32) (hb hby at_115) (by decide) (XS.istore X46.here hx rfl (hb hby at_116) rfl (l' := #[.val (.int p0), .val (.int p1), .val (.int p2), .val (.int (1 : Int32)), .val (.ref b32_0), .val (.ref b34), .val (.ref b44), .val (.int (0 : Int32))]) rfl (XS.aload X46.here hx rfl (hb hby at_118) rfl rfl k)))) ?_
      obtain ⟨cq57, kq57, q57a, q57b, q57c⟩ := isOf hZ rfl o46_0
      obtain ⟨_, _, ⟨T57, L57, k57, n57⟩, -, X57, ⟨Lc57, hQ57, l57, y57, z57⟩, st57⟩ := X46.virtualBack hx (y := (⟨"com/example/treewright/treewright/schema/AugmentTarget$Path", "startsOwn", "()Z"⟩ : MethodName)) (z := (⟨"com/example/treewright/treewright/schema/AugmentTarget$Path", "startsOwn", "()Z"⟩ : MethodName)) hown (mvT hZ (hw _ (List.mem_of_getElem? (i := 110) rfl))) (mvT hZ (hw _ (List.mem_of_getElem? (i := 111) rfl))) (notFace_of_selects (args := #[]) (mvT hZ (hw _ (List.mem_of_getElem? (i := 113) rfl)))) (mvT hZ (hw _ (List.mem_of_getElem? (i := 113) rfl))) (mvT hZ (hw _ (List.mem_of_getElem? (i := 112) rfl))) (by decide) (backOf (W := 0) (rm_so0 l Z a0 hw [] b44 p0 T46.heap n0 f47_0 o46_2 c108_48) hZ (hw _ (List.mem_of_getElem? (i := 114) rfl)) (hw _ (List.mem_of_getElem? (i := 101) rfl)) (by decide) (by decide)) q57a q57c (g := (mkF m 120 #[.val (.int p0), .val (.int p1), .val (.int p2), .val (.int (1 : Int32)), .val (.ref b32_0), .val (.ref b34), .val (.ref b44), .val (.int (0 : Int32))] [(.ref b44)])) rfl (by rw [hml]; rfl) (Steps.refl _) (argsL := []) (rest := []) (lenOf pd0_3 rfl) rfl (by show 2 * 0 + _ ≤ _; exact Nat.le_of_eq rfl) (hb hby at_120) (fun _ _ => ⟨rfl, rfl, (by decide : 6 + 0 ≤ _), (by decide : 23 + 0 ≤ _)⟩)
      dsimp only [Pt.U, Pt.locs, Pt.cells, Pt.slots] at X57 l57 y57 z57 st57 hQ57
      subst l57 y57 z57
      obtain ⟨rfl, N57q, K57⟩ := hQ57
      have f58_0 := Nat.le_trans f47_0 K57.1
      have f58_1 := Sta_keep0 f47_1 K57
      have f58_2 := Sta_keep0 f47_2 K57
      have f58_3 := f47_3.keep K57 nin0
      have f58_4 := f47_4.keep K57
      have f58_5 := f47_5.keep K57
      have f58_6 := f47_6.keep K57
      have f58_7 := f47_7.keep K57 nin0
      have f58_8 := f47_8.keep K57 nin0
      have f58_9 := f47_9.keep K57 nin0
      have f58_10 := f47_10.keep K57 nin0
      have f58_12 := o46_0.keep K57
      have f58_13 := o46_1.keep K57 nin0
      have f58_14 := o46_2.keep K57 nin0
      have N57 := Fr.app N46 N57q
      refine Wp.back (U' := (T57.setTop (mkF m 123 #[.val (.int p0), .val (.int p1), .val (.int p2), .val (.int (1 : Int32)), .val (.ref b32_0), .val (.ref b34), .val (.ref b44), .val (.int (0 : Int32))] [(.int (0 : Int32))]))) (fun t k => st57.trans k) ?_
      refine Wp.back (U' := (T57.setTop (mkF m 130 #[.val (.int p0), .val (.int p1), .val (.int p2), .val (.int (1 : Int32)), .val (.ref b32_0), .val (.ref b34), .val (.ref b44), .val (.int (0 : Int32))] [(.ref b44)]))) (fun t k => XS.iload X57.here hx rfl (hb hby at_123) rfl (XS.icmpNo X57.here hx rfl (hb hby at_125) rfl (teq (by decide)).2 (XS.aload X57.here hx rfl (hb hby at_128) rfl rfl k))) ?_
      obtain ⟨cq59, kq59, q59a, q59b, q59c⟩ := isOf hZ rfl f58_12
      obtain ⟨_, _, ⟨T59, L59, k59, n59⟩, -, X59, ⟨Lc59, hQ59, l59, y59, z59⟩, st59⟩ := X57.virtualBack hx (y := (⟨"com/example/treewright/treewright/schema/AugmentTarget$Path", "ownFrom", "()I"⟩ : MethodName)) (z := (⟨"com/example/treewright/treewright/schema/AugmentTarget$Path", "ownFrom", "()I"⟩ : MethodName)) hown (mvT hZ (hw _ (List.mem_of_getElem? (i := 115) rfl))) (mvT hZ (hw _ (List.mem_of_getElem? (i := 116) rfl))) (notFace_of_selects (args := #[]) (mvT hZ (hw _ (List.mem_of_getElem? (i := 118) rfl)))) (mvT hZ (hw _ (List.mem_of_getElem? (i := 118) rfl))) (mvT hZ (hw _ (List.mem_of_getElem? (i := 117) rfl))) (by decide) (backOf (W := 0) (rm_of l Z a0 hw [] b44 p0 T57.heap n0 f58_0 f58_14) hZ (hw _ (List.mem_of_getElem? (i := 119) rfl)) (hw _ (List.mem_of_getElem? (i := 101) rfl)) (by decide) (by decide)) q59a q59c (g := (mkF m 130 #[.val (.int p0), .val (.int p1), .val (.int p2), .val (.int (1 : Int32)), .val (.ref b32_0), .val (.ref b34), .val (.ref b44), .val (.int (0 : Int32))] [(.ref b44)])) rfl (by rw [hml]; rfl) (Steps.refl _) (argsL := []) (rest := []) (lenOf pd0_4 rfl) rfl (by show 2 * 0 + _ ≤ _; exact Nat.le_of_eq rfl) (hb hby at_130) (fun _ _ => ⟨rfl, rfl, (by decide : 6 + 0 ≤ _), (by decide : 23 + 0 ≤ _)⟩)
      dsimp only [Pt.U, Pt.locs, Pt.cells, Pt.slots] at X59 l59 y59 z59 st59 hQ59
      subst l59 y59 z59
      obtain ⟨rfl, N59q, K59⟩ := hQ59
      have f60_0 := Nat.le_trans f58_0 K59.1
      have f60_1 := Sta_keep0 f58_1 K59
      have f60_2 := Sta_keep0 f58_2 K59
      have f60_3 := f58_3.keep K59 nin0
      have f60_4 := f58_4.keep K59
      have f60_5 := f58_5.keep K59
      have f60_6 := f58_6.keep K59
      have f60_7 := f58_7.keep K59 nin0
      have f60_8 := f58_8.keep K59 nin0
      have f60_9 := f58_9.keep K59 nin0
      have f60_10 := f58_10.keep K59 nin0
      have f60_12 := f58_12.keep K59
      have f60_13 := f58_13.keep K59 nin0
      have f60_14 := f58_14.keep K59 nin0
      have N59 := Fr.app N57 N59q
      refine Wp.back (U' := (T59.setTop (mkF m 133 #[.val (.int p0), .val (.int p1), .val (.int p2), .val (.int (1 : Int32)), .val (.ref b32_0), .val (.ref b34), .val (.ref b44), .val (.int (0 : Int32))] [(.int p0)]))) (fun t k => st59.trans k) ?_
      refine Wp.back (U' := (T59.setTop (mkF m 139 #[.val (.int p0), .val (.int p1), .val (.int p2), .val (.int (1 : Int32)), .val (.ref b32_0), .val (.ref b34), .val (.ref b44), .val (.int (0 : Int32))] [(.ref b44)]))) (fun t k => XS.iloadN X59.here hx rfl (hb hby at_133) rfl (XS.icmpNo X59.here hx rfl (hb hby at_134) rfl (teq (rfl : p0 = p0)).2 (XS.aload X59.here hx rfl (hb hby at_137) rfl rfl k))) ?_
      obtain ⟨cq61, kq61, q61a, q61b, q61c⟩ := isOf hZ rfl f60_12
      obtain ⟨_, _, ⟨T61, L61, k61, n61⟩, -, X61, ⟨Lc61, hQ61, l61, y61, z61⟩, st61⟩ := X59.virtualBack hx (y := (⟨"com/example/treewright/treewright/schema/AugmentTarget$Path", "steps", "()Ljava/util/List;"⟩ : MethodName)) (z := (⟨"com/example/treewright/treewright/schema/AugmentTarget$Path", "steps", "()Ljava/util/List;"⟩ : MethodName)) hown (mvT hZ (hw _ (List.mem_of_getElem? (i := 120) rfl))) (mvT hZ (hw _ (List.mem_of_getElem? (i := 121) rfl))) (notFace_of_selects (args := #[]) (mvT hZ (hw _ (List.mem_of_getElem? (i := 123) rfl)))) (mvT hZ (hw _ (List.mem_of_getElem? (i := 123) rfl))) (mvT hZ (hw _ (List.mem_of_getElem? (i := 122) rfl))) (by decide) (backOf (W := 0) (rm_ss l Z a0 hw [] b44 b34 T59.heap n0 f60_0 f60_13) hZ (hw _ (List.mem_of_getElem? (i := 124) rfl)) (hw _ (List.mem_of_getElem? (i := 101) rfl)) (by decide) (by decide)) q61a q61c (g := (mkF m 139 #[.val (.int p0), .val (.int p1), .val (.int p2), .val (.int (1 : Int32)), .val (.ref b32_0), .val (.ref b34), .val (.ref b44), .val (.int (0 : Int32))] [(.ref b44)])) rfl (by rw [hml]; rfl) (Steps.refl _) (argsL := []) (rest := []) (lenOf pd0_5 rfl) rfl (by show 2 * 0 + _ ≤ _; exact Nat.le_of_eq rfl) (hb hby at_139) (fun _ _ => ⟨rfl, rfl, (by decide : 6 + 0 ≤ _), (by decide : 23 + 0 ≤ _)⟩)
      dsimp only [Pt.U, Pt.locs, Pt.cells, Pt.slots] at X61 l61 y61 z61 st61 hQ61
      subst l61 y61 z61
      obtain ⟨rfl, N61q, K61⟩ := hQ61
      have f62_0 := Nat.le_trans f60_0 K61.1
      have f62_1 := Sta_keep0 f60_1 K61
      have f62_2 := Sta_keep0 f60_2 K61
      have f62_3 := f60_3.keep K61 nin0
      have f62_4 := f60_4.keep K61
      have f62_5 := f60_5.keep K61
      have f62_6 := f60_6.keep K61
      have f62_7 := f60_7.keep K61 nin0
      have f62_8 := f60_8.keep K61 nin0
      have f62_9 := f60_9.keep K61 nin0
      have f62_10 := f60_10.keep K61 nin0
      have f62_12 := f60_12.keep K61
      have f62_13 := f60_13.keep K61 nin0
      have f62_14 := f60_14.keep K61 nin0
      have N61 := Fr.app N59 N61q
      refine Wp.back (U' := (T61.setTop (mkF m 142 #[.val (.int p0), .val (.int p1), .val (.int p2), .val (.int (1 : Int32)), .val (.ref b32_0), .val (.ref b34), .val (.ref b44), .val (.int (0 : Int32))] [(.ref b34)]))) (fun t k => st61.trans k) ?_
      obtain ⟨cq63, kq63, q63a, q63b, q63c⟩ := isOf hZ rfl f62_5
      obtain ⟨_, _, ⟨T63, L63, k63, n63⟩, -, X63, ⟨Lc63, hQ63, l63, y63, z63⟩, st63⟩ := X61.interfaceBack hx (xi := (⟨"java/util/List", "size", "()I"⟩ : MethodName)) (y := (⟨"java/util/ArrayList", "size", "()I"⟩ : MethodName)) hown (mvT hZ (hw _ (List.mem_of_getElem? (i := 125) rfl))) (mvT hZ (hw _ (List.mem_of_getElem? (i := 126) rfl))) (mvT hZ (hw _ (List.mem_of_getElem? (i := 127) rfl))) (mvT hZ (hw _ (List.mem_of_getElem? (i := 128) rfl))) (mvT hZ (hw _ (List.mem_of_getElem? (i := 129) rfl))) (mvT hZ (hw _ (List.mem_of_getElem? (i := 130) rfl))) (mvT hZ (hw _ (List.mem_of_getElem? (i := 131) rfl))) (mvT hZ (hw _ (List.mem_of_getElem? (i := 132) rfl))) (by decide) (backOf (W := 0) (rm_sz1 l Z a0 hw [] b34  T61.heap n0 f62_0 f62_9) hZ (hw _ (List.mem_of_getElem? (i := 133) rfl)) (hw _ (List.mem_of_getElem? (i := 28) rfl)) (by decide) (by decide)) q63a q63b q63c (g := (mkF m 142 #[.val (.int p0), .val (.int p1), .val (.int p2), .val (.int (1 : Int32)), .val (.ref b32_0), .val (.ref b34), .val (.ref b44), .val (.int (0 : Int32))] [(.ref b34)])) rfl (by rw [hml]; rfl) (Steps.refl _) (argsL := []) (rest := []) (lenOf pd0_4 rfl) rfl (by show 2 * 0 + _ ≤ _; exact Nat.le_of_eq rfl) (hb hby at_142) (fun _ _ => ⟨rfl, rfl, (by decide : 6 + 0 ≤ _), (by decide : 23 + 0 ≤ _)⟩)
      dsimp only [Pt.U, Pt.locs, Pt.cells, Pt.slots] at X63 l63 y63 z63 st63 hQ63
      subst l63 y63 z63
      obtain ⟨rfl, N63q, K63⟩ := hQ63
      have f64_0 := Nat.le_trans f62_0 K63.1
      have f64_1 := Sta_keep0 f62_1 K63
      have f64_2 := Sta_keep0 f62_2 K63
      have f64_3 := f62_3.keep K63 nin0
      have f64_4 := f62_4.keep K63
      have f64_5 := f62_5.keep K63
      have f64_6 := f62_6.keep K63
      have f64_7 := f62_7.keep K63 nin0
      have f64_8 := f62_8.keep K63 nin0
      have f64_9 := f62_9.keep K63 nin0
      have f64_10 := f62_10.keep K63 nin0
      have f64_12 := f62_12.keep K63
      have f64_13 := f62_13.keep K63 nin0
      have f64_14 := f62_14.keep K63 nin0
      have N63 := Fr.app N61 N63q
      refine Wp.back (U' := (T63.setTop (mkF m 147 #[.val (.int p0), .val (.int p1), .val (.int p2), .val (.int (1 : Int32)), .val (.ref b32_0), .val (.ref b34), .val (.ref b44), .val (.int (0 : Int32))] [(.int (1 : Int32))]))) (fun t k => st63.trans k) ?_
      refine Wp.back (U' := (T63.setTop (mkF m 156 #[.val (.int p0), .val (.int p1), .val (.int p2), .val (.int (1 : Int32)), .val (.ref b32_0), .val (.ref b34), .val (.ref b44), .val (.int (0 : Int32))] [(.int (1 : Int32))]))) (fun t k => XS.iloadN X63.here hx rfl (hb hby at_147) rfl (XS.icmpNo X63.here hx rfl (hb hby at_148) rfl (teq (by decide)).2 (XT.iconstV X63.here hx rfl (1 : Int32) (hb hby at_151) (by decide) (XS.goto X63.here hx rfl (pc0 := 152) (pc' := 156) rfl (hb hby at_152) (by decide) (by decide) k)))) ?_
      obtain ⟨fs, hr, hrun, hended, hW, hsame⟩ := X63.leave (v := (some (.int (1 : Int32)))) (fun h => by rw [hret] at h; cases h)
      refine Wp.done (retN X63 hx (t := .boolean) hret (by simp) (hb hby at_156) hr) hrun hended ⟨_, _, rfl, ?_, ⟨_, rfl⟩, hW, hsame.mono (by decide) (by decide)⟩
      show QL n0 _ T63.heap _
      exact ⟨rfl, N63⟩
  · rw [hk3]
    refine Wp.back (U' := (s₁.setTop (mkF m 10 #[.val (.int p0), .val (.int p1), .val (.int p2), .val (.int (2 : Int32)), .unset, .unset, .unset, .unset] [(.int ((p2 &&& (255 : Int32))).toUInt32.toUInt16.toUInt32.toInt32)]))) (fun t k => XS.iloadN X0.here hx rfl (hb hby at_4) rfl (XT.sipushV X0.here hx rfl (255 : Int32) (hb hby at_5) (by decide) (XS.iand X0.here hx rfl (hb hby at_8) rfl (XS.i2c X0.here hx rfl (hb hby at_9) rfl k)))) ?_
    obtain ⟨_, _, ⟨T65, L65, k65, n65⟩, -, X65, ⟨Lc65, hQ65, l65, y65, z65⟩, st65⟩ := Jvm.LawKit.callS X0 hx (y := (⟨"java/lang/String", "valueOf", "(C)Ljava/lang/String;"⟩ : MethodName)) hown (mvT hZ (hw _ (List.mem_of_getElem? (i := 0) rfl))) (mvT hZ (hw _ (List.mem_of_getElem? (i := 1) rfl))) (mvT hZ (hw _ (List.mem_of_getElem? (i := 2) rfl))) (mvT hZ (hw _ (List.mem_of_getElem? (i := 3) rfl))) (by decide) (backOf (W := 0) (rm_vo l Z a0 hw [] ((p2 &&& (255 : Int32))).toUInt32.toUInt16.toUInt32.toInt32 cs h0 n0 Z0 PC hcs (own_255 p2)) hZ (hw _ (List.mem_of_getElem? (i := 3) rfl)) (hw _ (List.mem_of_getElem? (i := 2) rfl)) (by decide) (by decide)) (g := (mkF m 10 #[.val (.int p0), .val (.int p1), .val (.int p2), .val (.int (2 : Int32)), .unset, .unset, .unset, .unset] [(.int ((p2 &&& (255 : Int32))).toUInt32.toUInt16.toUInt32.toInt32)])) rfl (by rw [hml]; rfl) (argsL := [(.int ((p2 &&& (255 : Int32))).toUInt32.toUInt16.toUInt32.toInt32)]) (rest := []) (lenOf pd0_0 rfl) rfl (by show 2 * 0 + _ ≤ _; exact Nat.le_of_eq rfl) (hb hby at_10) (fun _ _ => ⟨rfl, e0, (by decide : 0 + 2 ≤ _), (by decide : 0 + 5 ≤ _)⟩)
    dsimp only [Pt.U, Pt.locs, Pt.cells, Pt.slots] at X65 l65 y65 z65 st65 hQ65
    subst l65 y65 z65
    obtain ⟨b65_0, rfl, N65q, K65, sf65_0, o65_0⟩ := hQ65
    have ne_de_b65_0 : de ≠ b65_0 := Nat.ne_of_lt (Nat.lt_of_lt_of_le PA.lt sf65_0)
    have g_b65_0 : n0 ≤ b65_0 := Nat.le_trans Z0 sf65_0
    have f66_0 := Nat.le_trans Z0 K65.1
    have f66_1 := Sta_keep0 PC K65
    have f66_2 := Sta_keep0 PD K65
    have f66_3 := PA.keep K65 nin0
    have N65 := Fr.app N0 N65q
    refine Wp.back (U' := (T65.setTop (mkF m 13 #[.val (.int p0), .val (.int p1), .val (.int p2), .val (.int (2 : Int32)), .unset, .unset, .unset, .unset] [(.ref b65_0)]))) st65 ?_
    refine Wp.back (U' := (T65.setTop (mkF m 15 #[.val (.int p0), .val (.int p1), .val (.int p2), .val (.int (2 : Int32)), .val (.ref b65_0), .unset, .unset, .unset] []))) (fun t k => XS.astore X65.here hx rfl (hb hby at_13) rfl rfl (l' := #[.val (.int p0), .val (.int p1), .val (.int p2), .val (.int (2 : Int32)), .val (.ref b65_0), .unset, .unset, .unset]) rfl k) ?_
    obtain ⟨T67, h67, X67, e67, E67, A67, D67, -, st67⟩ := newO X65 hx hZ hown (hw _ (List.mem_of_getElem? (i := 26) rfl)) (hw _ (List.mem_of_getElem? (i := 27) rfl)) (hw _ (List.mem_of_getElem? (i := 28) rfl)) rfl (g := (mkF m 15 #[.val (.int p0), .val (.int p1), .val (.int p2), .val (.int (2 : Int32)), .val (.ref b65_0), .unset, .unset, .unset] [])) rfl (hb hby at_15) (by decide) (by decide)
    obtain ⟨b67, g67⟩ : ∃ z, z = T65.heap.size := ⟨_, rfl⟩
    rw [← g67] at A67 D67 st67
    have ne_de_b67 : de ≠ b67 := Nat.ne_of_lt (Nat.lt_of_lt_of_le f66_3.lt (Nat.le_of_eq g67.symm))
    have ne_b65_0_b67 : b65_0 ≠ b67 := Nat.ne_of_lt (Nat.lt_of_lt_of_le o65_0.lt (Nat.le_of_eq g67.symm))
    have g_b67 : n0 ≤ b67 := Nat.le_trans f66_0 (Nat.le_of_eq g67.symm)
    have f68_0 := Nat.le_trans f66_0 E67.1
    have f68_1 := f66_1.ext E67
    have f68_2 := f66_2.ext E67
    have f68_3 := f66_3.ext E67
    have f68_4 := o65_0.ext E67
    have F67_46 : Fld Z h67 b67 "java/util/AbstractList" "modCount" "I" (.int (0 : Int32)) := D67 (Or.inl (hw _ (List.mem_of_getElem? (i := 46) rfl))) (ty := .int) (by decide)
    have F67_49 : Fld Z h67 b67 "java/util/ArrayList" "elementData" "[Ljava/lang/Object;" .null := D67 (Or.inl (hw _ (List.mem_of_getElem? (i := 49) rfl))) (ty := (.array (.object "java/lang/Object"))) (by decide)
    have F67_76 : Fld Z h67 b67 "java/util/ArrayList" "size" "I" (.int (0 : Int32)) := D67 (Or.inl (hw _ (List.mem_of_getElem? (i := 76) rfl))) (ty := .int) (by decide)
    refine Wp.back (U' := (T67.setTop (mkF m 18 #[.val (.int p0), .val (.int p1), .val (.int p2), .val (.int (2 : Int32)), .val (.ref b65_0), .unset, .unset, .unset] [(.ref b67)]))) st67 ?_
    refine Wp.back (U' := (T67.setTop (mkF m 19 #[.val (.int p0), .val (.int p1), .val (.int p2), .val (.int (2 : Int32)), .val (.ref b65_0), .unset, .unset, .unset] [(.ref b67), (.ref b67)]))) (fun t k => XS.dup X67.here hx rfl (hb hby at_18) rfl rfl k) ?_
    obtain ⟨_, _, ⟨T69, L69, k69, n69⟩, -, X69, ⟨Lc69, hQ69, l69, y69, z69⟩, st69⟩ := X67.specialBack hx (y := (⟨"java/util/ArrayList", "<init>", "()V"⟩ : MethodName)) rfl hown (mvT hZ (hw _ (List.mem_of_getElem? (i := 29) rfl))) (mvT hZ (hw _ (List.mem_of_getElem? (i := 30) rfl))) (mvT hZ (hw _ (List.mem_of_getElem? (i := 31) rfl))) (by decide) (backOf (W := 1) (rm_al l Z a0 hw [] b67 de h67 n0 f68_0 A67 F67_46 F67_49 F67_76 f68_2 g_b67) hZ (hw _ (List.mem_of_getElem? (i := 31) rfl)) (hw _ (List.mem_of_getElem? (i := 28) rfl)) (by decide) (by decide)) (g := (mkF m 19 #[.val (.int p0), .val (.int p1), .val (.int p2), .val (.int (2 : Int32)), .val (.ref b65_0), .unset, .unset, .unset] [(.ref b67), (.ref b67)])) rfl (by rw [hml]; rfl) (Steps.refl _) (a := b67) (argsL := []) (rest := [(.ref b67)]) (lenOf pd0_1 rfl) rfl (by show 2 * 0 + _ ≤ _; exact Nat.le_of_eq rfl) (hb hby at_19) (fun _ _ => ⟨rfl, e67, (by decide : 3 + 0 ≤ _), (by decide : 8 + 0 ≤ _)⟩)
    dsimp only [Pt.U, Pt.locs, Pt.cells, Pt.slots] at X69 l69 y69 z69 st69 hQ69
    subst l69 y69 z69
    obtain ⟨rfl, N69q, K69, o69_0, o69_1, o69_2, o69_3⟩ := hQ69
    have f70_0 := Nat.le_trans f68_0 K69.1
    have f70_1 := Sta_keep f68_1 K69 (allS (Exa_ns A67) all0)
    have f70_2 := Sta_keep f68_2 K69 (allS (Exa_ns A67) all0)
    have f70_3 := f68_3.keep K69 (ninS ne_de_b67 nin0)
    have f70_4 := f68_4.keep K69
    have f70_5 := A67.keep K69
    have N69 := Fr.app N65 N69q
    refine Wp.back (U' := (T69.setTop (mkF m 22 #[.val (.int p0), .val (.int p1), .val (.int p2), .val (.int (2 : Int32)), .val (.ref b65_0), .unset, .unset, .unset] [(.ref b67)]))) (fun t k => st69.trans k) ?_
    refine Wp.back (U' := (T69.setTop (mkF m 30 #[.val (.int p0), .val (.int p1), .val (.int p2), .val (.int (2 : Int32)), .val (.ref b65_0), .val (.ref b67), .unset, .unset] [(.ref b67)]))) (fun t k => XS.astore X69.here hx rfl (hb hby at_22) rfl rfl (l' := #[.val (.int p0), .val (.int p1), .val (.int p2), .val (.int (2 : Int32)), .val (.ref b65_0), .val (.ref b67), .unset, .unset]) rfl (XS.iloadN X69.here hx rfl (hb hby at_24) rfl (XS.ifNo X69.here hx rfl (hb hby at_25) rfl ((if0 _ _).trans (tlt (by decide)).2.2.2) (XS.aload X69.here hx rfl (hb hby at_28) rfl rfl k)))) ?_
    obtain ⟨T71, h71, X71, e71, E71, A71, D71, -, st71⟩ := newO X69 hx hZ hown (hw _ (List.mem_of_getElem? (i := 50) rfl)) (hw _ (List.mem_of_getElem? (i := 51) rfl)) (hw _ (List.mem_of_getElem? (i := 52) rfl)) rfl (g := (mkF m 30 #[.val (.int p0), .val (.int p1), .val (.int p2), .val (.int (2 : Int32)), .val (.ref b65_0), .val (.ref b67), .unset, .unset] [(.ref b67)])) rfl (hb hby at_30) (by decide) (by decide)
    obtain ⟨b71, g71⟩ : ∃ z, z = T69.heap.size := ⟨_, rfl⟩
    rw [← g71] at A71 D71 st71
    have ne_de_b71 : de ≠ b71 := Nat.ne_of_lt (Nat.lt_of_lt_of_le f70_3.lt (Nat.le_of_eq g71.symm))
    have ne_b65_0_b71 : b65_0 ≠ b71 := Nat.ne_of_lt (Nat.lt_of_lt_of_le f70_4.lt (Nat.le_of_eq g71.symm))
    have ne_b67_b71 : b67 ≠ b71 := Nat.ne_of_lt (Nat.lt_of_lt_of_le o69_0.lt (Nat.le_of_eq g71.symm))
    have g_b71 : n0 ≤ b71 := Nat.le_trans f70_0 (Nat.le_of_eq g71.symm)
    have f72_0 := Nat.le_trans f70_0 E71.1
    have f72_1 := f70_1.ext E71
    have f72_2 := f70_2.ext E71
    have f72_3 := f70_3.ext E71
    have f72_4 := f70_4.ext E71
    have f72_5 := o69_0.ext E71
    have f72_6 := o69_1.ext E71
    have f72_7 := o69_2.ext E71
    have f72_8 := o69_3.ext E71
    have F71_63 : Fld Z h71 b71 "com/example/treewright/treewright/schema/AugmentTarget$Step" "prefix" "Ljava/lang/String;" .null := D71 (Or.inr (hw _ (List.mem_of_getElem? (i := 63) rfl))) (ty := (.object "java/lang/String")) (by decide)
    have F71_65 : Fld Z h71 b71 "com/example/treewright/treewright/schema/AugmentTarget$Step" "module" "Ljava/lang/String;" .null := D71 (Or.inr (hw _ (List.mem_of_getElem? (i := 65) rfl))) (ty := (.object "java/lang/String")) (by decide)
    have F71_67 : Fld Z h71 b71 "com/example/treewright/treewright/schema/AugmentTarget$Step" "name" "Ljava/lang/String;" .null := D71 (Or.inr (hw _ (List.mem_of_getElem? (i := 67) rfl))) (ty := (.object "java/lang/String")) (by decide)
    refine Wp.back (U' := (T71.setTop (mkF m 33 #[.val (.int p0), .val (.int p1), .val (.int p2), .val (.int (2 : Int32)), .val (.ref b65_0), .val (.ref b67), .unset, .unset] [(.ref b71), (.ref b67)]))) st71 ?_
    refine Wp.back (U' := (T71.setTop (mkF m 40 #[.val (.int p0), .val (.int p1), .val (.int p2), .val (.int (2 : Int32)), .val (.ref b65_0), .val (.ref b67), .unset, .unset] [(.ref b65_0), (.ref b65_0), (.ref b65_0), (.ref b71), (.ref b71), (.ref b67)]))) (fun t k => XS.dup X71.here hx rfl (hb hby at_33) rfl rfl (XS.aload X71.here hx rfl (hb hby at_34) rfl rfl (XS.aload X71.here hx rfl (hb hby at_36) rfl rfl (XS.aload X71.here hx rfl (hb hby at_38) rfl rfl k)))) ?_
    obtain ⟨_, _, ⟨T73, L73, k73, n73⟩, -, X73, ⟨Lc73, hQ73, l73, y73, z73⟩, st73⟩ := X71.specialBack hx (y := (⟨"com/example/treewright/treewright/schema/AugmentTarget$Step", "<init>", "(Ljava/lang/String;Ljava/lang/String;Ljava/lang/String;)V"⟩ : MethodName)) rfl hown (mvT hZ (hw _ (List.mem_of_getElem? (i := 53) rfl))) (mvT hZ (hw _ (List.mem_of_getElem? (i := 54) rfl))) (mvT hZ (hw _ (List.mem_of_getElem? (i := 55) rfl))) (by decide) (backOf (W := 2) (rm_sp l Z a0 hw [] b71 b65_0 b65_0 b65_0  h71 n0 f72_0 A71 F71_63 F71_65 F71_67 g_b71) hZ (hw _ (List.mem_of_getElem? (i := 55) rfl)) (hw _ (List.mem_of_getElem? (i := 52) rfl)) (by decide) (by decide)) (g := (mkF m 40 #[.val (.int p0), .val (.int p1), .val (.int p2), .val (.int (2 : Int32)), .val (.ref b65_0), .val (.ref b67), .unset, .unset] [(.ref b65_0), (.ref b65_0), (.ref b65_0), (.ref b71), (.ref b71), (.ref b67)])) rfl (by rw [hml]; rfl) (Steps.refl _) (a := b71) (argsL := [(.ref b65_0), (.ref b65_0), (.ref b65_0)]) (rest := [(.ref b71), (.ref b67)]) (lenOf pd0_6 rfl) rfl (by show 2 * 0 + _ ≤ _; exact Nat.le_of_eq rfl) (hb hby at_40) (fun _ _ => ⟨rfl, e71, (by decide : 4 + 0 ≤ _), (by decide : 11 + 0 ≤ _)⟩)
    dsimp only [Pt.U, Pt.locs, Pt.cells, Pt.slots] at X73 l73 y73 z73 st73 hQ73
    subst l73 y73 z73
    obtain ⟨rfl, N73q, K73, o73_0⟩ := hQ73
    have f74_0 := Nat.le_trans f72_0 K73.1
    have f74_1 := Sta_keep f72_1 K73 (allS (Exa_ns A71) all0)
    have f74_2 := Sta_keep f72_2 K73 (allS (Exa_ns A71) all0)
    have f74_3 := f72_3.keep K73 (ninS ne_de_b71 nin0)
    have f74_4 := f72_4.keep K73
    have f74_5 := f72_5.keep K73
    have f74_6 := f72_6.keep K73 (ninS ne_b67_b71 nin0)
    have f74_7 := f72_7.keep K73 (ninS ne_b67_b71 nin0)
    have f74_8 := f72_8.keep K73 (ninS ne_b67_b71 nin0)
    have f74_9 := A71.keep K73
    have N73 := Fr.app N69 N73q
    refine Wp.back (U' := (T73.setTop (mkF m 43 #[.val (.int p0), .val (.int p1), .val (.int p2), .val (.int (2 : Int32)), .val (.ref b65_0), .val (.ref b67), .unset, .unset] [(.ref b71), (.ref b67)]))) (fun t k => st73.trans k) ?_
    obtain ⟨cq75, kq75, q75a, q75b, q75c⟩ := isOf hZ rfl f74_5
    obtain ⟨_, _, ⟨T75, L75, k75, n75⟩, -, X75, ⟨Lc75, hQ75, l75, y75, z75⟩, st75⟩ := X73.virtualBack hx (y := (⟨"java/util/ArrayList", "add", "(Ljava/lang/Object;)Z"⟩ : MethodName)) (z := (⟨"java/util/ArrayList", "add", "(Ljava/lang/Object;)Z"⟩ : MethodName)) hown (mvT hZ (hw _ (List.mem_of_getElem? (i := 68) rfl))) (mvT hZ (hw _ (List.mem_of_getElem? (i := 69) rfl))) (notFace_of_selects (args := #[]) (mvT hZ (hw _ (List.mem_of_getElem? (i := 71) rfl)))) (mvT hZ (hw _ (List.mem_of_getElem? (i := 71) rfl))) (mvT hZ (hw _ (List.mem_of_getElem? (i := 70) rfl))) (by decide) (backOf (W := 0) (rm_ad0 l Z a0 hw [] b67 b71 de ke T73.heap n0 f74_0 f74_5 o73_0 f74_7 f74_8 f74_2 f74_3 f74_6 g_b67 (Ne.symm ne_b67_b71) (Ne.symm ne_de_b67)) hZ (hw _ (List.mem_of_getElem? (i := 72) rfl)) (hw _ (List.mem_of_getElem? (i := 28) rfl)) (by decide) (by decide)) q75a q75c (g := (mkF m 43 #[.val (.int p0), .val (.int p1), .val (.int p2), .val (.int (2 : Int32)), .val (.ref b65_0), .val (.ref b67), .unset, .unset] [(.ref b71), (.ref b67)])) rfl (by rw [hml]; rfl) (Steps.refl _) (argsL := [(.ref b71)]) (rest := []) (lenOf pd0_7 rfl) rfl (by show 2 * 0 + _ ≤ _; exact Nat.le_of_eq rfl) (hb hby at_43) (fun _ _ => ⟨rfl, rfl, (by decide : 4 + 1 ≤ _), (by decide : 11 + 10 ≤ _)⟩)
    dsimp only [Pt.U, Pt.locs, Pt.cells, Pt.slots] at X75 l75 y75 z75 st75 hQ75
    subst l75 y75 z75
    obtain ⟨b75_0, k75_0, rfl, N75q, K75, sf75_0, o75_0, o75_1, o75_2, o75_3, o75_4, o75_5⟩ := hQ75
    have ne_de_b75_0 : de ≠ b75_0 := Nat.ne_of_lt (Nat.lt_of_lt_of_le f74_3.lt sf75_0)
    have ne_b65_0_b75_0 : b65_0 ≠ b75_0 := Nat.ne_of_lt (Nat.lt_of_lt_of_le f74_4.lt sf75_0)
    have ne_b67_b75_0 : b67 ≠ b75_0 := Nat.ne_of_lt (Nat.lt_of_lt_of_le f74_5.lt sf75_0)
    have ne_b71_b75_0 : b71 ≠ b75_0 := Nat.ne_of_lt (Nat.lt_of_lt_of_le o73_0.lt sf75_0)
    have g_b75_0 : n0 ≤ b75_0 := Nat.le_trans f74_0 sf75_0
    have f76_0 := Nat.le_trans f74_0 K75.1
    have f76_1 := Sta_keep f74_1 K75 (allS (Exa_ns f74_5) all0)
    have f76_2 := Sta_keep f74_2 K75 (allS (Exa_ns f74_5) all0)
    have f76_3 := f74_3.keep K75 (ninS ne_de_b67 nin0)
    have f76_4 := f74_4.keep K75
    have f76_5 := f74_5.keep K75
    have f76_9 := o73_0.keep K75
    have N75 := Fr.app N73 N75q
    refine Wp.back (U' := (T75.setTop (mkF m 46 #[.val (.int p0), .val (.int p1), .val (.int p2), .val (.int (2 : Int32)), .val (.ref b65_0), .val (.ref b67), .unset, .unset] [(.int (1 : Int32))]))) (fun t k => st75.trans k) ?_
    refine Wp.back (U' := (T75.setTop (mkF m 54 #[.val (.int p0), .val (.int p1), .val (.int p2), .val (.int (2 : Int32)), .val (.ref b65_0), .val (.ref b67), .unset, .unset] [(.ref b67)]))) (fun t k => XS.pop X75.here hx rfl (hb hby at_46) rfl rfl (XS.iloadN X75.here hx rfl (hb hby at_47) rfl (XT.iconstV X75.here hx rfl (1 : Int32) (hb hby at_48) (by decide) (XS.icmpNo X75.here hx rfl (hb hby at_49) rfl (tlt (by decide)).2.2.2 (XS.aload X75.here hx rfl (hb hby at_52) rfl rfl k))))) ?_
    obtain ⟨T77, h77, X77, e77, E77, A77, D77, -, st77⟩ := newO X75 hx hZ hown (hw _ (List.mem_of_getElem? (i := 50) rfl)) (hw _ (List.mem_of_getElem? (i := 51) rfl)) (hw _ (List.mem_of_getElem? (i := 52) rfl)) rfl (g := (mkF m 54 #[.val (.int p0), .val (.int p1), .val (.int p2), .val (.int (2 : Int32)), .val (.ref b65_0), .val (.ref b67), .unset, .unset] [(.ref b67)])) rfl (hb hby at_54) (by decide) (by decide)
    obtain ⟨b77, g77⟩ : ∃ z, z = T75.heap.size := ⟨_, rfl⟩
    rw [← g77] at A77 D77 st77
    have ne_de_b77 : de ≠ b77 := Nat.ne_of_lt (Nat.lt_of_lt_of_le f76_3.lt (Nat.le_of_eq g77.symm))
    have ne_b65_0_b77 : b65_0 ≠ b77 := Nat.ne_of_lt (Nat.lt_of_lt_of_le f76_4.lt (Nat.le_of_eq g77.symm))
    have ne_b67_b77 : b67 ≠ b77 := Nat.ne_of_lt (Nat.lt_of_lt_of_le o75_0.lt (Nat.le_of_eq g77.symm))
    have ne_b71_b77 : b71 ≠ b77 := Nat.ne_of_lt (Nat.lt_of_lt_of_le f76_9.lt (Nat.le_of_eq g77.symm))
    have ne_b75_0_b77 : b75_0 ≠ b77 := Nat.ne_of_lt (Nat.lt_of_lt_of_le o75_4.lt (Nat.le_of_eq g77.symm))
    have g_b77 : n0 ≤ b77 := Nat.le_trans f76_0 (Nat.le_of_eq g77.symm)
    have f78_0 := Nat.le_trans f76_0 E77.1
    have f78_1 := f76_1.ext E77
    have f78_2 := f76_2.ext E77
    have f78_3 := f76_3.ext E77
    have f78_4 := f76_4.ext E77
    have f78_5 := o75_0.ext E77
    have f78_6 := f76_9.ext E77
    have f78_7 := o75_1.ext E77
    have f78_8 := o75_2.ext E77
    have f78_9 := o75_3.ext E77
    have f78_10 := o75_4.ext E77
    have F77_63 : Fld Z h77 b77 "com/example/treewright/treewright/schema/AugmentTarget$Step" "prefix" "Ljava/lang/String;" .null := D77 (Or.inr (hw _ (List.mem_of_getElem? (i := 63) rfl))) (ty := (.object "java/lang/String")) (by decide)
    have F77_65 : Fld Z h77 b77 "com/example/treewright/treewright/schema/AugmentTarget$Step" "module" "Ljava/lang/String;" .null := D77 (Or.inr (hw _ (List.mem_of_getElem? (i := 65) rfl))) (ty := (.object "java/lang/String")) (by decide)
    have F77_67 : Fld Z h77 b77 "com/example/treewright/treewright/schema/AugmentTarget$Step" "name" "Ljava/lang/String;" .null := D77 (Or.inr (hw _ (List.mem_of_getElem? (i := 67) rfl))) (ty := (.object "java/lang/String")) (by decide)
    refine Wp.back (U' := (T77.setTop (mkF m 57 #[.val (.int p0), .val (.int p1), .val (.int p2), .val (.int (2 : Int32)), .val (.ref b65_0), .val (.ref b67), .unset, .unset] [(.ref b77), (.ref b67)]))) st77 ?_
    refine Wp.back (U' := (T77.setTop (mkF m 64 #[.val (.int p0), .val (.int p1), .val (.int p2), .val (.int (2 : Int32)), .val (.ref b65_0), .val (.ref b67), .unset, .unset] [(.ref b65_0), (.ref b65_0), (.ref b65_0), (.ref b77), (.ref b77), (.ref b67)]))) (fun t k => XS.dup X77.here hx rfl (hb hby at_57) rfl rfl (XS.aload X77.here hx rfl (hb hby at_58) rfl rfl (XS.aload X77.here hx rfl (hb hby at_60) rfl rfl (XS.aload X77.here hx rfl (hb hby at_62) rfl rfl k)))) ?_
    obtain ⟨_, _, ⟨T79, L79, k79, n79⟩, -, X79, ⟨Lc79, hQ79, l79, y79, z79⟩, st79⟩ := X77.specialBack hx (y := (⟨"com/example/treewright/treewright/schema/AugmentTarget$Step", "<init>", "(Ljava/lang/String;Ljava/lang/String;Ljava/lang/String;)V"⟩ : MethodName)) rfl hown (mvT hZ (hw _ (List.mem_of_getElem? (i := 53) rfl))) (mvT hZ (hw _ (List.mem_of_getElem? (i := 54) rfl))) (mvT hZ (hw _ (List.mem_of_getElem? (i := 55) rfl))) (by decide) (backOf (W := 2) (rm_sp l Z a0 hw [] b77 b65_0 b65_0 b65_0  h77 n0 f78_0 A77 F77_63 F77_65 F77_67 g_b77) hZ (hw _ (List.mem_of_getElem? (i := 55) rfl)) (hw _ (List.mem_of_getElem? (i := 52) rfl)) (by decide) (by decide)) (g := (mkF m 64 #[.val (.int p0), .val (.int p1), .val (.int p2), .val (.int (2 : Int32)), .val (.ref b65_0), .val (.ref b67), .unset, .unset] [(.ref b65_0), (.ref b65_0), (.ref b65_0), (.ref b77), (.ref b77), (.ref b67)])) rfl (by rw [hml]; rfl) (Steps.refl _) (a := b77) (argsL := [(.ref b65_0), (.ref b65_0), (.ref b65_0)]) (rest := [(.ref b77), (.ref b67)]) (lenOf pd0_6 rfl) rfl (by show 2 * 0 + _ ≤ _; exact Nat.le_of_eq rfl) (hb hby at_64) (fun _ _ => ⟨rfl, e77, (by decide : 6 + 0 ≤ _), (by decide : 24 + 0 ≤ _)⟩)
    dsimp only [Pt.U, Pt.locs, Pt.cells, Pt.slots] at X79 l79 y79 z79 st79 hQ79
    subst l79 y79 z79
    obtain ⟨rfl, N79q, K79, o79_0⟩ := hQ79
    have f80_0 := Nat.le_trans f78_0 K79.1
    have f80_1 := Sta_keep f78_1 K79 (allS (Exa_ns A77) all0)
    have f80_2 := Sta_keep f78_2 K79 (allS (Exa_ns A77) all0)
    have f80_3 := f78_3.keep K79 (ninS ne_de_b77 nin0)
    have f80_4 := f78_4.keep K79
    have f80_5 := f78_5.keep K79
    have f80_6 := f78_6.keep K79
    have f80_7 := f78_7.keep K79 (ninS ne_b67_b77 nin0)
    have f80_8 := f78_8.keep K79 (ninS ne_b67_b77 nin0)
    have f80_9 := f78_9.keep K79 (ninS ne_b67_b77 nin0)
    have f80_10 := f78_10.keep K79 (ninS ne_b75_0_b77 nin0)
    have f80_12 := A77.keep K79
    have N79 := Fr.app N75 N79q
    refine Wp.back (U' := (T79.setTop (mkF m 67 #[.val (.int p0), .val (.int p1), .val (.int p2), .val (.int (2 : Int32)), .val (.ref b65_0), .val (.ref b67), .unset, .unset] [(.ref b77), (.ref b67)]))) (fun t k => st79.trans k) ?_
    obtain ⟨cq81, kq81, q81a, q81b, q81c⟩ := isOf hZ rfl f80_5
    obtain ⟨_, _, ⟨T81, L81, k81, n81⟩, -, X81, ⟨Lc81, hQ81, l81, y81, z81⟩, st81⟩ := X79.virtualBack hx (y := (⟨"java/util/ArrayList", "add", "(Ljava/lang/Object;)Z"⟩ : MethodName)) (z := (⟨"java/util/ArrayList", "add", "(Ljava/lang/Object;)Z"⟩ : MethodName)) hown (mvT hZ (hw _ (List.mem_of_getElem? (i := 68) rfl))) (mvT hZ (hw _ (List.mem_of_getElem? (i := 69) rfl))) (notFace_of_selects (args := #[]) (mvT hZ (hw _ (List.mem_of_getElem? (i := 71) rfl)))) (mvT hZ (hw _ (List.mem_of_getElem? (i := 71) rfl))) (mvT hZ (hw _ (List.mem_of_getElem? (i := 70) rfl))) (by decide) (backOf (W := 0) (rm_ad1 l Z a0 hw [] b67 b77 b75_0 k75_0 b71 T79.heap n0 f80_0 f80_5 o79_0 f80_8 f80_9 f80_10 o75_5 f80_7 g_b67 g_b75_0 (Ne.symm ne_b67_b77) (Ne.symm ne_b75_0_b77) ne_b67_b75_0) hZ (hw _ (List.mem_of_getElem? (i := 72) rfl)) (hw _ (List.mem_of_getElem? (i := 28) rfl)) (by decide) (by decide)) q81a q81c (g := (mkF m 67 #[.val (.int p0), .val (.int p1), .val (.int p2), .val (.int (2 : Int32)), .val (.ref b65_0), .val (.ref b67), .unset, .unset] [(.ref b77), (.ref b67)])) rfl (by rw [hml]; rfl) (Steps.refl _) (argsL := [(.ref b77)]) (rest := []) (lenOf pd0_7 rfl) rfl (by show 2 * 0 + _ ≤ _; exact Nat.le_of_eq rfl) (hb hby at_67) (fun _ _ => ⟨rfl, rfl, (by decide : 6 + 0 ≤ _), (by decide : 24 + 0 ≤ _)⟩)
    dsimp only [Pt.U, Pt.locs, Pt.cells, Pt.slots] at X81 l81 y81 z81 st81 hQ81
    subst l81 y81 z81
    obtain ⟨rfl, N81q, K81, o81_0, o81_1, o81_2, o81_3, o81_4, o81_5⟩ := hQ81
    have f82_0 := Nat.le_trans f80_0 K81.1
    have f82_1 := Sta_keep f80_1 K81 (allS (Exa_ns f80_5) (allS (Arv_ns f80_10) all0))
    have f82_2 := Sta_keep f80_2 K81 (allS (Exa_ns f80_5) (allS (Arv_ns f80_10) all0))
    have f82_3 := f80_3.keep K81 (ninS ne_de_b67 (ninS ne_de_b75_0 nin0))
    have f82_4 := f80_4.keep K81
    have f82_5 := f80_5.keep K81
    have f82_6 := f80_6.keep K81
    have f82_12 := o79_0.keep K81
    have N81 := Fr.app N79 N81q
    refine Wp.back (U' := (T81.setTop (mkF m 70 #[.val (.int p0), .val (.int p1), .val (.int p2), .val (.int (2 : Int32)), .val (.ref b65_0), .val (.ref b67), .unset, .unset] [(.int (1 : Int32))]))) (fun t k => st81.trans k) ?_
    refine Wp.back (U' := (T81.setTop (mkF m 95 #[.val (.int p0), .val (.int p1), .val (.int p2), .val (.int (2 : Int32)), .val (.ref b65_0), .val (.ref b67), .unset, .unset] []))) (fun t k => XS.pop X81.here hx rfl (hb hby at_70) rfl rfl (XS.iloadN X81.here hx rfl (hb hby at_71) rfl (XT.iconstV X81.here hx rfl (2 : Int32) (hb hby at_72) (by decide) (XS.icmpYes X81.here hx rfl (pc0 := 73) (pc' := 95) rfl (hb hby at_73) rfl (flt (by decide)).2.2.2 (by decide) (by decide) k)))) ?_
    obtain ⟨T83, h83, X83, e83, E83, A83, D83, -, st83⟩ := newO X81 hx hZ hown (hw _ (List.mem_of_getElem? (i := 99) rfl)) (hw _ (List.mem_of_getElem? (i := 100) rfl)) (hw _ (List.mem_of_getElem? (i := 101) rfl)) rfl (g := (mkF m 95 #[.val (.int p0), .val (.int p1), .val (.int p2), .val (.int (2 : Int32)), .val (.ref b65_0), .val (.ref b67), .unset, .unset] [])) rfl (hb hby at_95) (by decide) (by decide)
    obtain ⟨b83, g83⟩ : ∃ z, z = T81.heap.size := ⟨_, rfl⟩
    rw [← g83] at A83 D83 st83
    have ne_de_b83 : de ≠ b83 := Nat.ne_of_lt (Nat.lt_of_lt_of_le f82_3.lt (Nat.le_of_eq g83.symm))
    have ne_b65_0_b83 : b65_0 ≠ b83 := Nat.ne_of_lt (Nat.lt_of_lt_of_le f82_4.lt (Nat.le_of_eq g83.symm))
    have ne_b67_b83 : b67 ≠ b83 := Nat.ne_of_lt (Nat.lt_of_lt_of_le o81_0.lt (Nat.le_of_eq g83.symm))
    have ne_b71_b83 : b71 ≠ b83 := Nat.ne_of_lt (Nat.lt_of_lt_of_le f82_6.lt (Nat.le_of_eq g83.symm))
    have ne_b75_0_b83 : b75_0 ≠ b83 := Nat.ne_of_lt (Nat.lt_of_lt_of_le o81_4.lt (Nat.le_of_eq g83.symm))
    have ne_b77_b83 : b77 ≠ b83 := Nat.ne_of_lt (Nat.lt_of_lt_of_le f82_12.lt (Nat.le_of_eq g83.symm))
    have g_b83 : n0 ≤ b83 := Nat.le_trans f82_0 (Nat.le_of_eq g83.symm)
    have f84_0 := Nat.le_trans f82_0 E83.1
    have f84_1 := f82_1.ext E83
    have f84_2 := f82_2.ext E83
    have f84_3 := f82_3.ext E83
    have f84_4 := f82_4.ext E83
    have f84_5 := o81_0.ext E83
    have f84_6 := f82_6.ext E83
    have f84_8 := f82_12.ext E83
    have f84_9 := o81_1.ext E83
    have f84_10 := o81_2.ext E83
    have f84_11 := o81_3.ext E83
    have f84_12 := o81_4.ext E83
    have F83_107 : Fld Z h83 b83 "com/example/treewright/treewright/schema/AugmentTarget$Path" "steps" "Ljava/util/List;" .null := D83 (Or.inr (hw _ (List.mem_of_getElem? (i := 107) rfl))) (ty := (.object "java/util/List")) (by decide)
    have F83_109 : Fld Z h83 b83 "com/example/treewright/treewright/schema/AugmentTarget$Path" "ownFrom" "I" (.int (0 : Int32)) := D83 (Or.inr (hw _ (List.mem_of_getElem? (i := 109) rfl))) (ty := .int) (by decide)
    refine Wp.back (U' := (T83.setTop (mkF m 98 #[.val (.int p0), .val (.int p1), .val (.int p2), .val (.int (2 : Int32)), .val (.ref b65_0), .val (.ref b67), .unset, .unset] [(.ref b83)]))) st83 ?_
    refine Wp.back (U' := (T83.setTop (mkF m 102 #[.val (.int p0), .val (.int p1), .val (.int p2), .val (.int (2 : Int32)), .val (.ref b65_0), .val (.ref b67), .unset, .unset] [(.int p0), (.ref b67), (.ref b83), (.ref b83)]))) (fun t k => XS.dup X83.here hx rfl (hb hby at_98) rfl rfl (XS.aload X83.here hx rfl (hb hby at_99) rfl rfl (XS.iloadN X83.here hx rfl (hb hby at_101) rfl k))) ?_
    obtain ⟨_, _, ⟨T85, L85, k85, n85⟩, -, X85, ⟨Lc85, hQ85, l85, y85, z85⟩, st85⟩ := X83.specialBack hx (y := (⟨"com/example/treewright/treewright/schema/AugmentTarget$Path", "<init>", "(Ljava/util/List;I)V"⟩ : MethodName)) rfl hown (mvT hZ (hw _ (List.mem_of_getElem? (i := 102) rfl))) (mvT hZ (hw _ (List.mem_of_getElem? (i := 103) rfl))) (mvT hZ (hw _ (List.mem_of_getElem? (i := 104) rfl))) (by decide) (backOf (W := 1) (rm_pt l Z a0 hw [] b83 b67 p0  h83 n0 f84_0 A83 F83_107 F83_109 g_b83) hZ (hw _ (List.mem_of_getElem? (i := 104) rfl)) (hw _ (List.mem_of_getElem? (i := 101) rfl)) (by decide) (by decide)) (g := (mkF m 102 #[.val (.int p0), .val (.int p1), .val (.int p2), .val (.int (2 : Int32)), .val (.ref b65_0), .val (.ref b67), .unset, .unset] [(.int p0), (.ref b67), (.ref b83), (.ref b83)])) rfl (by rw [hml]; rfl) (Steps.refl _) (a := b83) (argsL := [(.ref b67), (.int p0)]) (rest := [(.ref b83)]) (lenOf pd0_2 rfl) rfl (by show 2 * 0 + _ ≤ _; exact Nat.le_of_eq rfl) (hb hby at_102) (fun _ _ => ⟨rfl, e83, (by decide : 7 + 0 ≤ _), (by decide : 26 + 0 ≤ _)⟩)
    dsimp only [Pt.U, Pt.locs, Pt.cells, Pt.slots] at X85 l85 y85 z85 st85 hQ85
    subst l85 y85 z85
    obtain ⟨rfl, N85q, K85, o85_0, o85_1, o85_2⟩ := hQ85
    have f86_0 := Nat.le_trans f84_0 K85.1
    have f86_1 := Sta_keep f84_1 K85 (allS (Exa_ns A83) all0)
    have f86_2 := Sta_keep f84_2 K85 (allS (Exa_ns A83) all0)
    have f86_3 := f84_3.keep K85 (ninS ne_de_b83 nin0)
    have f86_4 := f84_4.keep K85
    have f86_5 := f84_5.keep K85
    have f86_6 := f84_6.keep K85
    have f86_8 := f84_8.keep K85
    have f86_9 := f84_9.keep K85 (ninS ne_b67_b83 nin0)
    have f86_10 := f84_10.keep K85 (ninS ne_b67_b83 nin0)
    have f86_11 := f84_11.keep K85 (ninS ne_b67_b83 nin0)
    have f86_12 := f84_12.keep K85 (ninS ne_b75_0_b83 nin0)
    have f86_13 := A83.keep K85
    have N85 := Fr.app N81 N85q
    refine Wp.back (U' := (T85.setTop (mkF m 105 #[.val (.int p0), .val (.int p1), .val (.int p2), .val (.int (2 : Int32)), .val (.ref b65_0), .val (.ref b67), .unset, .unset] [(.ref b83)]))) (fun t k => st85.trans k) ?_
    refine Wp.back (U' := (T85.setTop (mkF m 108 #[.val (.int p0), .val (.int p1), .val (.int p2), .val (.int (2 : Int32)), .val (.ref b65_0), .val (.ref b67), .val (.ref b83), .unset] [(.int p0)]))) (fun t k => XS.astore X85.here hx rfl (hb hby at_105) rfl rfl (l' := #[.val (.int p0), .val (.int p1), .val (.int p2), .val (.int (2 : Int32)), .val (.ref b65_0), .val (.ref b67), .val (.ref b83), .unset]) rfl (XS.iloadN X85.here hx rfl (hb hby at_107) rfl k)) ?_
    by_cases c108_87 : p0 = (0 : Int32)
    · refine Wp.back (U' := (T85.setTop (mkF m 120 #[.val (.int p0), .val (.int p1), .val (.int p2), .val (.int (2 : Int32)), .val (.ref b65_0), .val (.ref b67), .val (.ref b83), .val (.int (1 : Int32))] [(.ref b83)]))) (fun t k => XS.ifNo X85.here hx rfl (hb hby at_108) rfl ((if0 _ _).trans (teq c108_87).2) (XT.iconstV X85.here hx rfl (1 : Int32) (hb hby at_111) (by decide) (XS.goto X85.here hx rfl (pc0 := 112) (pc' := 116) rfl (hb hby at_112) (by decide) (by decide) (XS.istore X85.here hx rfl (hb hby at_116) rfl (l' := #[.val (.int p0), .val (.int p1), .val (.int p2), .val (.int (2 : Int32)), .val (.ref b65_0), .val (.ref b67), .val (.ref b83), .val (.int (1 : Int32))]) rfl (XS.aload X85.here hx rfl (hb hby at_118) rfl rfl k))))) ?_
      obtain ⟨cq88, kq88, q88a, q88b, q88c⟩ := isOf hZ rfl o85_0
      obtain ⟨_, _, ⟨T88, L88, k88, n88⟩, -, X88, ⟨Lc88, hQ88, l88, y88, z88⟩, st88⟩ := X85.virtualBack hx (y := (⟨"com/example/treewright/treewright/schema/AugmentTarget$Path", "startsOwn", "()Z"⟩ : MethodName)) (z := (⟨"com/example/treewright/treewright/schema/AugmentTarget$Path", "startsOwn", "()Z"⟩ : MethodName)) hown (mvT hZ (hw _ (List.mem_of_getElem? (i := 110) rfl))) (mvT hZ (hw _ (List.mem_of_getElem? (i := 111) rfl))) (notFace_of_selects (args := #[]) (mvT hZ (hw _ (List.mem_of_getElem? (i := 113) rfl)))) (mvT hZ (hw _ (List.mem_of_getElem? (i := 113) rfl))) (mvT hZ (hw _ (List.mem_of_getElem? (i := 112) rfl))) (by decide) (backOf (W := 0) (rm_so1 l Z a0 hw [] b83 p0 T85.heap n0 f86_0 o85_2 c108_87) hZ (hw _ (List.mem_of_getElem? (i := 114) rfl)) (hw _ (List.mem_of_getElem? (i := 101) rfl)) (by decide) (by decide)) q88a q88c (g := (mkF m 120 #[.val (.int p0), .val (.int p1), .val (.int p2), .val (.int (2 : Int32)), .val (.ref b65_0), .val (.ref b67), .val (.ref b83), .val (.int (1 : Int32))] [(.ref b83)])) rfl (by rw [hml]; rfl) (Steps.refl _) (argsL := []) (rest := []) (lenOf pd0_3 rfl) rfl (by show 2 * 0 + _ ≤ _; exact Nat.le_of_eq rfl) (hb hby at_120) (fun _ _ => ⟨rfl, rfl, (by decide : 7 + 0 ≤ _), (by decide : 26 + 0 ≤ _)⟩)
      dsimp only [Pt.U, Pt.locs, Pt.cells, Pt.slots] at X88 l88 y88 z88 st88 hQ88
      subst l88 y88 z88
      obtain ⟨rfl, N88q, K88⟩ := hQ88
      have f89_0 := Nat.le_trans f86_0 K88.1
      have f89_1 := Sta_keep0 f86_1 K88
      have f89_2 := Sta_keep0 f86_2 K88
      have f89_3 := f86_3.keep K88 nin0
      have f89_4 := f86_4.keep K88
      have f89_5 := f86_5.keep K88
      have f89_6 := f86_6.keep K88
      have f89_8 := f86_8.keep K88
      have f89_9 := f86_9.keep K88 nin0
      have f89_10 := f86_10.keep K88 nin0
      have f89_11 := f86_11.keep K88 nin0
      have f89_12 := f86_12.keep K88 nin0
      have f89_13 := o85_0.keep K88
      have f89_14 := o85_1.keep K88 nin0
      have f89_15 := o85_2.keep K88 nin0
      have N88 := Fr.app N85 N88q
      refine Wp.back (U' := (T88.setTop (mkF m 123 #[.val (.int p0), .val (.int p1), .val (.int p2), .val (.int (2 : Int32)), .val (.ref b65_0), .val (.ref b67), .val (.ref b83), .val (.int (1 : Int32))] [(.int (1 : Int32))]))) (fun t k => st88.trans k) ?_
      refine Wp.back (U' := (T88.setTop (mkF m 130 #[.val (.int p0), .val (.int p1), .val (.int p2), .val (.int (2 : Int32)), .val (.ref b65_0), .val (.ref b67), .val (.ref b83), .val (.int (1 : Int32))] [(.ref b83)]))) (fun t k => XS.iload X88.here hx rfl (hb hby at_123) rfl (XS.icmpNo X88.here hx rfl (hb hby at_125) rfl (teq (by decide)).2 (XS.aload X88.here hx rfl (hb hby at_128) rfl rfl k))) ?_
      obtain ⟨cq90, kq90, q90a, q90b, q90c⟩ := isOf hZ rfl f89_13
      obtain ⟨_, _, ⟨T90, L90, k90, n90⟩, -, X90, ⟨Lc90, hQ90, l90, y90, z90⟩, st90⟩ := X88.virtualBack hx (y := (⟨"com/example/treewright/treewright/schema/AugmentTarget$Path", "ownFrom", "()I"⟩ : MethodName)) (z := (⟨"com/example/treewright/treewright/schema/AugmentTarget$Path", "ownFrom", "()I"⟩ : MethodName)) hown (mvT hZ (hw _ (List.mem_of_getElem? (i := 115) rfl))) (mvT hZ (hw _ (List.mem_of_getElem? (i := 116) rfl))) (notFace_of_selects (args := #[]) (mvT hZ (hw _ (List.mem_of_getElem? (i := 118) rfl)))) (mvT hZ (hw _ (List.mem_of_getElem? (i := 118) rfl))) (mvT hZ (hw _ (List.mem_of_getElem? (i := 117) rfl))) (by decide) (backOf (W := 0) (rm_of l Z a0 hw [] b83 p0 T88.heap n0 f89_0 f89_15) hZ (hw _ (List.mem_of_getElem? (i := 119) rfl)) (hw _ (List.mem_of_getElem? (i := 101) rfl)) (by decide) (by decide)) q90a q90c (g := (mkF m 130 #[.val (.int p0), .val (.int p1), .val (.int p2), .val (.int (2 : Int32)), .val (.ref b65_0), .val (.ref b67), .val (.ref b83), .val (.int (1 : Int32))] [(.ref b83)])) rfl (by rw [hml]; rfl) (Steps.refl _) (argsL := []) (rest := []) (lenOf pd0_4 rfl) rfl (by show 2 * 0 + _ ≤ _; exact Nat.le_of_eq rfl) (hb hby at_130) (fun _ _ => ⟨rfl, rfl, (by decide : 7 + 0 ≤ _), (by decide : 26 + 0 ≤ _)⟩)
      dsimp only [Pt.U, Pt.locs, Pt.cells, Pt.slots] at X90 l90 y90 z90 st90 hQ90
      subst l90 y90 z90
      obtain ⟨rfl, N90q, K90⟩ := hQ90
      have f91_0 := Nat.le_trans f89_0 K90.1
      have f91_1 := Sta_keep0 f89_1 K90
      have f91_2 := Sta_keep0 f89_2 K90
      have f91_3 := f89_3.keep K90 nin0
      have f91_4 := f89_4.keep K90
      have f91_5 := f89_5.keep K90
      have f91_6 := f89_6.keep K90
      have f91_8 := f89_8.keep K90
      have f91_9 := f89_9.keep K90 nin0
      have f91_10 := f89_10.keep K90 nin0
      have f91_11 := f89_11.keep K90 nin0
      have f91_12 := f89_12.keep K90 nin0
      have f91_13 := f89_13.keep K90
      have f91_14 := f89_14.keep K90 nin0
      have f91_15 := f89_15.keep K90 nin0
      have N90 := Fr.app N88 N90q
      refine Wp.back (U' := (T90.setTop (mkF m 133 #[.val (.int p0), .val (.int p1), .val (.int p2), .val (.int (2 : Int32)), .val (.ref b65_0), .val (.ref b67), .val (.ref b83), .val (.int (1 : Int32))] [(.int p0)]))) (fun t k => st90.trans k) ?_
      refine Wp.back (U' := (T90.setTop (mkF m 139 #[.val (.int p0), .val (.int p1), .val (.int p2), .val (.int (2 : Int32)), .val (.ref b65_0), .val (.ref b67), .val (.ref b83), .val (.int (1 : Int32))] [(.ref b83)]))) (fun t k => XS.iloadN X90.here hx rfl (hb hby at_133) rfl (XS.icmpNo X90.here hx rfl (hb hby at_134) rfl (teq (rfl : p0 = p0)).2 (XS.aload X90.here hx rfl (hb hby at_137) rfl rfl k))) ?_
      obtain ⟨cq92, kq92, q92a, q92b, q92c⟩ := isOf hZ rfl f91_13
      obtain ⟨_, _, ⟨T92, L92, k92, n92⟩, -, X92, ⟨Lc92, hQ92, l92, y92, z92⟩, st92⟩ := X90.virtualBack hx (y := (⟨"com/example/treewright/treewright/schema/AugmentTarget$Path", "steps", "()Ljava/util/List;"⟩ : MethodName)) (z := (⟨"com/example/treewright/treewright/schema/AugmentTarget$Path", "steps", "()Ljava/util/List;"⟩ : MethodName)) hown (mvT hZ (hw _ (List.mem_of_getElem? (i := 120) rfl))) (mvT hZ (hw _ (List.mem_of_getElem? (i := 121) rfl))) (notFace_of_selects (args := #[]) (mvT hZ (hw _ (List.mem_of_getElem? (i := 123) rfl)))) (mvT hZ (hw _ (List.mem_of_getElem? (i := 123) rfl))) (mvT hZ (hw _ (List.mem_of_getElem? (i := 122) rfl))) (by decide) (backOf (W := 0) (rm_ss l Z a0 hw [] b83 b67 T90.heap n0 f91_0 f91_14) hZ (hw _ (List.mem_of_getElem? (i := 124) rfl)) (hw _ (List.mem_of_getElem? (i := 101) rfl)) (by decide) (by decide)) q92a q92c (g := (mkF m 139 #[.val (.int p0), .val (.int p1), .val (.int p2), .val (.int (2 : Int32)), .val (.ref b65_0), .val (.ref b67), .val (.ref b83), .val (.int (1 : Int32))] [(.ref b83)])) rfl (by rw [hml]; rfl) (Steps.refl _) (argsL := []) (rest := []) (lenOf pd0_5 rfl) rfl (by show 2 * 0 + _ ≤ _; exact Nat.le_of_eq rfl) (hb hby at_139) (fun _ _ => ⟨rfl, rfl, (by decide : 7 + 0 ≤ _), (by decide : 26 + 0 ≤ _)⟩)
      dsimp only [Pt.U, Pt.locs, Pt.cells, Pt.slots] at X92 l92 y92 z92 st92 hQ92
      subst l92 y92 z92
      obtain ⟨rfl, N92q, K92⟩ := hQ92
      have f93_0 := Nat.le_trans f91_0 K92.1
      have f93_1 := Sta_keep0 f91_1 K92
      have f93_2 := Sta_keep0 f91_2 K92
      have f93_3 := f91_3.keep K92 nin0
      have f93_4 := f91_4.keep K92
      have f93_5 := f91_5.keep K92
      have f93_6 := f91_6.keep K92
      have f93_8 := f91_8.keep K92
      have f93_9 := f91_9.keep K92 nin0
      have f93_10 := f91_10.keep K92 nin0
      have f93_11 := f91_11.keep K92 nin0
      have f93_12 := f91_12.keep K92 nin0
      have f93_13 := f91_13.keep K92
      have f93_14 := f91_14.keep K92 nin0
      have f93_15 := f91_15.keep K92 nin0
      have N92 := Fr.app N90 N92q
      refine Wp.back (U' := (T92.setTop (mkF m 142 #[.val (.int p0), .val (.int p1), .val (.int p2), .val (.int (2 : Int32)), .val (.ref b65_0), .val (.ref b67), .val (.ref b83), .val (.int (1 : Int32))] [(.ref b67)]))) (fun t k => st92.trans k) ?_
      obtain ⟨cq94, kq94, q94a, q94b, q94c⟩ := isOf hZ rfl f93_5
      obtain ⟨_, _, ⟨T94, L94, k94, n94⟩, -, X94, ⟨Lc94, hQ94, l94, y94, z94⟩, st94⟩ := X92.interfaceBack hx (xi := (⟨"java/util/List", "size", "()I"⟩ : MethodName)) (y := (⟨"java/util/ArrayList", "size", "()I"⟩ : MethodName)) hown (mvT hZ (hw _ (List.mem_of_getElem? (i := 125) rfl))) (mvT hZ (hw _ (List.mem_of_getElem? (i := 126) rfl))) (mvT hZ (hw _ (List.mem_of_getElem? (i := 127) rfl))) (mvT hZ (hw _ (List.mem_of_getElem? (i := 128) rfl))) (mvT hZ (hw _ (List.mem_of_getElem? (i := 129) rfl))) (mvT hZ (hw _ (List.mem_of_getElem? (i := 130) rfl))) (mvT hZ (hw _ (List.mem_of_getElem? (i := 131) rfl))) (mvT hZ (hw _ (List.mem_of_getElem? (i := 132) rfl))) (by decide) (backOf (W := 0) (rm_sz2 l Z a0 hw [] b67  T92.heap n0 f93_0 f93_11) hZ (hw _ (List.mem_of_getElem? (i := 133) rfl)) (hw _ (List.mem_of_getElem? (i := 28) rfl)) (by decide) (by decide)) q94a q94b q94c (g := (mkF m 142 #[.val (.int p0), .val (.int p1), .val (.int p2), .val (.int (2 : Int32)), .val (.ref b65_0), .val (.ref b67), .val (.ref b83), .val (.int (1 : Int32))] [(.ref b67)])) rfl (by rw [hml]; rfl) (Steps.refl _) (argsL := []) (rest := []) (lenOf pd0_4 rfl) rfl (by show 2 * 0 + _ ≤ _; exact Nat.le_of_eq rfl) (hb hby at_142) (fun _ _ => ⟨rfl, rfl, (by decide : 7 + 0 ≤ _), (by decide : 26 + 0 ≤ _)⟩)
      dsimp only [Pt.U, Pt.locs, Pt.cells, Pt.slots] at X94 l94 y94 z94 st94 hQ94
      subst l94 y94 z94
      obtain ⟨rfl, N94q, K94⟩ := hQ94
      have f95_0 := Nat.le_trans f93_0 K94.1
      have f95_1 := Sta_keep0 f93_1 K94
      have f95_2 := Sta_keep0 f93_2 K94
      have f95_3 := f93_3.keep K94 nin0
      have f95_4 := f93_4.keep K94
      have f95_5 := f93_5.keep K94
      have f95_6 := f93_6.keep K94
      have f95_8 := f93_8.keep K94
      have f95_9 := f93_9.keep K94 nin0
      have f95_10 := f93_10.keep K94 nin0
      have f95_11 := f93_11.keep K94 nin0
      have f95_12 := f93_12.keep K94 nin0
      have f95_13 := f93_13.keep K94
      have f95_14 := f93_14.keep K94 nin0
      have f95_15 := f93_15.keep K94 nin0
      have N94 := Fr.app N92 N94q
      refine Wp.back (U' := (T94.setTop (mkF m 147 #[.val (.int p0), .val (.int p1), .val (.int p2), .val (.int (2 : Int32)), .val (.ref b65_0), .val (.ref b67), .val (.ref b83), .val (.int (1 : Int32))] [(.int (2 : Int32))]))) (fun t k => st94.trans k) ?_
      refine Wp.back (U' := (T94.setTop (mkF m 156 #[.val (.int p0), .val (.int p1), .val (.int p2), .val (.int (2 : Int32)), .val (.ref b65_0), .val (.ref b67), .val (.ref b83), .val (.int (1 : Int32))] [(.int (1 : Int32))]))) (fun t k => XS.iloadN X94.here hx rfl (hb hby at_147) rfl (XS.icmpNo X94.here hx rfl (hb hby at_148) rfl (teq (by decide)).2 (XT.iconstV X94.here hx rfl (1 : Int32) (hb hby at_151) (by decide) (XS.goto X94.here hx rfl (pc0 := 152) (pc' := 156) rfl (hb hby at_152) (by decide) (by decide) k)))) ?_
      obtain ⟨fs, hr, hrun, hended, hW, hsame⟩ := X94.leave (v := (some (.int (1 : Int32)))) (fun h => by rw [hret] at h; cases h)
      refine Wp.done (retN X94 hx (t := .boolean) hret (by simp) (hb hby at_156) hr) hrun hended ⟨_, _, rfl, ?_, ⟨_, rfl⟩, hW, hsame.mono (by decide) (by decide)⟩
      show QL n0 _ T94.heap _
      exact ⟨rfl, N94⟩
    · refine Wp.back (U' := (T85.setTop (mkF m 120 #[.val (.int p0), .val (.int p1), .val (.int p2), .val (.int (2 : Int32)), .val (.ref b65_0), .val (.ref b67), .val (.ref b83), .val (.int (0 : Int32))] [(.ref b83)]))) (fun t k => XS.ifYes X85.here hx rfl (pc0 := 108) (pc' := 115) rfl (hb hby at_108) rfl ((if0 _ _).trans (feq c108_87).2) (by decide) (by decide) (XT.iconstV X85.here hx rfl (0 : Int32) (hb hby at_115) (by decide) (XS.istore X85.here hx rfl (hb hby at_116) rfl (l' := #[.val (.int p0), .val (.int p1), .val (.int p2), .val (.int (2 : Int32)), .val (.ref b65_0), .val (.ref b67), .val (.ref b83), .val (.int (0 : Int32))]) rfl (XS.aload X85.here hx rfl (hb hby at_118) rfl rfl k)))) ?_
      obtain ⟨cq96, kq96, q96a, q96b, q96c⟩ := isOf hZ rfl o85_0
      obtain ⟨_, _, ⟨T96, L96, k96, n96⟩, -, X96, ⟨Lc96, hQ96, l96, y96, z96⟩, st96⟩ := X85.virtualBack hx (y := (⟨"com/example/treewright/treewright/schema/AugmentTarget$Path", "startsOwn", "()Z"⟩ : MethodName)) (z := (⟨"com/example/treewright/treewright/schema/AugmentTarget$Path", "startsOwn", "()Z"⟩ : MethodName)) hown (mvT hZ (hw _ (List.mem_of_getElem? (i := 110) rfl))) (mvT hZ (hw _ (List.mem_of_getElem? (i := 111) rfl))) (notFace_of_selects (args := #[]) (mvT hZ (hw _ (List.mem_of_getElem? (i := 113) rfl)))) (mvT hZ (hw _ (List.mem_of_getElem? (i := 113) rfl))) (mvT hZ (hw _ (List.mem_of_getElem? (i := 112) rfl))) (by decide) (backOf (W := 0) (rm_so0 l Z a0 hw [] b83 p0 T85.heap n0 f86_0 o85_2 c108_87) hZ (hw _ (List.mem_of_getElem? (i := 114) rfl)) (hw _ (List.mem_of_getElem? (i := 101) rfl)) (by decide) (by decide)) q96a q96c (g := (mkF m 120 #[.val (.int p0), .val (.int p1), .val (.int p2), .val (.int (2 : Int32)), .val (.ref b65_0), .val (.ref b67), .val (.ref b83), .val (.int (0 : Int32))] [(.ref b83)])) rfl (by rw [hml]; rfl) (Steps.refl _) (argsL := []) (rest := []) (lenOf pd0_3 rfl) rfl (by show 2 * 0 + _ ≤ _; exact Nat.le_of_eq rfl) (hb hby at_120) (fun _ _ => ⟨rfl, rfl, (by decide : 7 + 0 ≤ _), (by decide : 26 + 0 ≤ _)⟩)
      dsimp only [Pt.U, Pt.locs, Pt.cells, Pt.slots] at X96 l96 y96 z96 st96 hQ96
      subst l96 y96 z96
      obtain ⟨rfl, N96q, K96⟩ := hQ96
      have f97_0 := Nat.le_trans f86_0 K96.1
      have f97_1 := Sta_keep0 f86_1 K96
      have f97_2 := Sta_keep0 f86_2 K96
      have f97_3 := f86_3.keep K96 nin0
      have f97_4 := f86_4.keep K96
      have f97_5 := f86_5.keep K96
      have f97_6 := f86_6.keep K96
      have f97_8 := f86_8.keep K96
      have f97_9 := f86_9.keep K96 nin0
      have f97_10 := f86_10.keep K96 nin0
      have f97_11 := f86_11.keep K96 nin0
      have f97_12 := f86_12.keep K96 nin0
      have f97_13 := o85_0.keep K96
      have f97_14 := o85_1.keep K96 nin0
      have f97_15 := o85_2.keep K96 nin0
      have N96 := Fr.app N85 N96q
      refine Wp.back (U' := (T96.setTop (mkF m 123 #[.val (.int p0), .val (.int p1), .val (.int p2), .val (.int (2 : Int32)), .val (.ref b65_0), .val (.ref b67), .val (.ref b83), .val (.int (0 : Int32))] [(.int (0 : Int32))]))) (fun t k => st96.trans k) ?_
      refine Wp.back (U' := (T96.setTop (mkF m 130 #[.val (.int p0), .val (.int p1), .val (.int p2), .val (.int (2 : Int32)), .val (.ref b65_0), .val (.ref b67), .val (.ref b83), .val (.int (0 : Int32))] [(.ref b83)]))) (fun t k => XS.iload X96.here hx rfl (hb hby at_123) rfl (XS.icmpNo X96.here hx rfl (hb hby at_125) rfl (teq (by decide)).2 (XS.aload X96.here hx rfl (hb hby at_128) rfl rfl k))) ?_
      obtain ⟨cq98, kq98, q98a, q98b, q98c⟩ := isOf hZ rfl f97_13
      obtain ⟨_, _, ⟨T98, L98, k98, n98⟩, -, X98, ⟨Lc98, hQ98, l98, y98, z98⟩, st98⟩ := X96.virtualBack hx (y := (⟨"com/example/treewright/treewright/schema/AugmentTarget$Path", "ownFrom", "()I"⟩ : MethodName)) (z := (⟨"com/example/treewright/treewright/schema/AugmentTarget$Path", "ownFrom", "()I"⟩ : MethodName)) hown (mvT hZ (hw _ (List.mem_of_getElem? (i := 115) rfl))) (mvT hZ (hw _ (List.mem_of_getElem? (i := 116) rfl))) (notFace_of_selects (args := #[]) (mvT hZ (hw _ (List.mem_of_getElem? (i := 118) rfl)))) (mvT hZ (hw _ (List.mem_of_getElem? (i := 118) rfl))) (mvT hZ (hw _ (List.mem_of_getElem? (i := 117) rfl))) (by decide) (backOf (W := 0) (rm_of l Z a0 hw [] b83 p0 T96.heap n0 f97_0 f97_15) hZ (hw _ (List.mem_of_getElem? (i := 119) rfl)) (hw _ (List.mem_of_getElem? (i := 101) rfl)) (by decide) (by decide)) q98a q98c (g := (mkF m 130 #[.val (.int p0), .val (.int p1), .val (.int p2), .val (.int (2 : Int32)), .val (.ref b65_0), .val (.ref b67), .val (.ref b83), .val (.int (0 : Int32))] [(.ref b83)])) rfl (by rw [hml]; rfl) (Steps.refl _) (argsL := []) (rest := []) (lenOf pd0_4 rfl) rfl (by show 2 * 0 + _ ≤ _; exact Nat.le_of_eq rfl) (hb hby at_130) (fun _ _ => ⟨rfl, rfl, (by decide : 7 + 0 ≤ _), (by decide : 26 + 0 ≤ _)⟩)
      dsimp only [Pt.U, Pt.locs, Pt.cells, Pt.slots] at X98 l98 y98 z98 st98 hQ98
      subst l98 y98 z98
      obtain ⟨rfl, N98q, K98⟩ := hQ98
      have f99_0 := Nat.le_trans f97_0 K98.1
      have f99_1 := Sta_keep0 f97_1 K98
      have f99_2 := Sta_keep0 f97_2 K98
      have f99_3 := f97_3.keep K98 nin0
      have f99_4 := f97_4.keep K98
      have f99_5 := f97_5.keep K98
      have f99_6 := f97_6.keep K98
      have f99_8 := f97_8.keep K98
      have f99_9 := f97_9.keep K98 nin0
      have f99_10 := f97_10.keep K98 nin0
      have f99_11 := f97_11.keep K98 nin0
      have f99_12 := f97_12.keep K98 nin0
      have f99_13 := f97_13.keep K98
      have f99_14 := f97_14.keep K98 nin0
      have f99_15 := f97_15.keep K98 nin0
      have N98 := Fr.app N96 N98q
      refine Wp.back (U' := (T98.setTop (mkF m 133 #[.val (.int p0), .val (.int p1), .val (.int p2), .val (.int (2 : Int32)), .val (.ref b65_0), .val (.ref b67), .val (.ref b83), .val (.int (0 : Int32))] [(.int p0)]))) (fun t k => st98.trans k) ?_
      refine Wp.back (U' := (T98.setTop (mkF m 139 #[.val (.int p0), .val (.int p1), .val (.int p2), .val (.int (2 : Int32)), .val (.ref b65_0), .val (.ref b67), .val (.ref b83), .val (.int (0 : Int32))] [(.ref b83)]))) (fun t k => XS.iloadN X98.here hx rfl (hb hby at_133) rfl (XS.icmpNo X98.here hx rfl (hb hby at_134) rfl (teq (rfl : p0 = p0)).2 (XS.aload X98.here hx rfl (hb hby at_137) rfl rfl k))) ?_
      obtain ⟨cq100, kq100, q100a, q100b, q100c⟩ := isOf hZ rfl f99_13
      obtain ⟨_, _, ⟨T100, L100, k100, n100⟩, -, X100, ⟨Lc100, hQ100, l100, y100, z100⟩, st100⟩ := X98.virtualBack hx (y := (⟨"com/example/treewright/treewright/schema/AugmentTarget$Path", "steps", "()Ljava/util/List;"⟩ : MethodName)) (z := (⟨"com/example/treewright/treewright/schema/AugmentTarget$Path", "steps", "()Ljava/util/List;"⟩ : MethodName)) hown (mvT hZ (hw _ (List.mem_of_getElem? (i := 120) rfl))) (mvT hZ (hw _ (List.mem_of_getElem? (i := 121) rfl))) (notFace_of_selects (args := #[]) (mvT hZ (hw _ (List.mem_of_getElem? (i := 123) rfl)))) (mvT hZ (hw _ (List.mem_of_getElem? (i := 123) rfl))) (mvT hZ (hw _ (List.mem_of_getElem? (i := 122) rfl))) (by decide) (backOf (W := 0) (rm_ss l Z a0 hw [] b83 b67 T98.heap n0 f99_0 f99_14) hZ (hw _ (List.mem_of_getElem? (i := 124) rfl)) (hw _ (List.mem_of_getElem? (i := 101) rfl)) (by decide) (by decide)) q100a q100c (g := (mkF m 139 #[.val (.int p0), .val (.int p1), .val (.int p2), .val (.int (2 : Int32)), .val (.ref b65_0), .val (.ref b67), .val (.ref b83), .val (.int (0 : Int32))] [(.ref b83)])) rfl (by rw [hml]; rfl) (Steps.refl _) (argsL := []) (rest := []) (lenOf pd0_5 rfl) rfl (by show 2 * 0 + _ ≤ _; exact Nat.le_of_eq rfl) (hb hby at_139) (fun _ _ => ⟨rfl, rfl, (by decide : 7 + 0 ≤ _), (by decide : 26 + 0 ≤ _)⟩)
      dsimp only [Pt.U, Pt.locs, Pt.cells, Pt.slots] at X100 l100 y100 z100 st100 hQ100
      subst l100 y100 z100
      obtain ⟨rfl, N100q, K100⟩ := hQ100
      have f101_0 := Nat.le_trans f99_0 K100.1
      have f101_1 := Sta_keep0 f99_1 K100
      have f101_2 := Sta_keep0 f99_2 K100
      have f101_3 := f99_3.keep K100 nin0
      have f101_4 := f99_4.keep K100
      have f101_5 := f99_5.keep K100
      have f101_6 := f99_6.keep K100
      have f101_8 := f99_8.keep K100
      have f101_9 := f99_9.keep K100 nin0
      have f101_10 := f99_10.keep K100 nin0
      have f101_11 := f99_11.keep K100 nin0
      have f101_12 := f99_12.keep K100 nin0
      have f101_13 := f99_13.keep K100
      have f101_14 := f99_14.keep K100 nin0
      have f101_15 := f99_15.keep K100 nin0
      have N100 := Fr.app N98 N100q
      refine Wp.back (U' := (T100.setTop (mkF m 142 #[.val (.int p0), .val (.int p1), .val (.int p2), .val (.int (2 : Int32)), .val (.ref b65_0), .val (.ref b67), .val (.ref b83), .val (.int (0 : Int32))] [(.ref b67)]))) (fun t k => st100.trans k) ?_
      obtain ⟨cq102, kq102, q102a, q102b, q102c⟩ := isOf hZ rfl f101_5
      obtain ⟨_, _, ⟨T102, L102, k102, n102⟩, -, X102, ⟨Lc102, hQ102, l102, y102, z102⟩, st102⟩ := X100.interfaceBack hx (xi := (⟨"java/util/List", "size", "()I"⟩ : MethodName)) (y := (⟨"java/util/ArrayList", "size", "()I"⟩ : MethodName)) hown (mvT hZ (hw _ (List.mem_of_getElem? (i := 125) rfl))) (mvT hZ (hw _ (List.mem_of_getElem? (i := 126) rfl))) (mvT hZ (hw _ (List.mem_of_getElem? (i := 127) rfl))) (mvT hZ (hw _ (List.mem_of_getElem? (i := 128) rfl))) (mvT hZ (hw _ (List.mem_of_getElem? (i := 129) rfl))) (mvT hZ (hw _ (List.mem_of_getElem? (i := 130) rfl))) (mvT hZ (hw _ (List.mem_of_getElem? (i := 131) rfl))) (mvT hZ (hw _ (List.mem_of_getElem? (i := 132) rfl))) (by decide) (backOf (W := 0) (rm_sz2 l Z a0 hw [] b67  T100.heap n0 f101_0 f101_11) hZ (hw _ (List.mem_of_getElem? (i := 133) rfl)) (hw _ (List.mem_of_getElem? (i := 28) rfl)) (by decide) (by decide)) q102a q102b q102c (g := (mkF m 142 #[.val (.int p0), .val (.int p1), .val (.int p2), .val (.int (2 : Int32)), .val (.ref b65_0), .val (.ref b67), .val (.ref b83), .val (.int (0 : Int32))] [(.ref b67)])) rfl (by rw [hml]; rfl) (Steps.refl _) (argsL := []) (rest := []) (lenOf pd0_4 rfl) rfl (by show 2 * 0 + _ ≤ _; exact Nat.le_of_eq rfl) (hb hby at_142) (fun _ _ => ⟨rfl, rfl, (by decide : 7 + 0 ≤ _), (by decide : 26 + 0 ≤ _)⟩)
      dsimp only [Pt.U, Pt.locs, Pt.cells, Pt.slots] at X102 l102 y102 z102 st102 hQ102
      subst l102 y102 z102
      obtain ⟨rfl, N102q, K102⟩ := hQ102
      have f103_0 := Nat.le_trans f101_0 K102.1
      have f103_1 := Sta_keep0 f101_1 K102
      have f103_2 := Sta_keep0 f101_2 K102
      have f103_3 := f101_3.keep K102 nin0
      have f103_4 := f101_4.keep K102
      have f103_5 := f101_5.keep K102
      have f103_6 := f101_6.keep K102
      have f103_8 := f101_8.keep K102
      have f103_9 := f101_9.keep K102 nin0
      have f103_10 := f101_10.keep K102 nin0
      have f103_11 := f101_11.keep K102 nin0
      have f103_12 := f101_12.keep K102 nin0
      have f103_13 := f101_13.keep K102
      have f103_14 := f101_14.keep K102 nin0
      have f103_15 := f101_15.keep K102 nin0
      have N102 := Fr.app N100 N102q
      refine Wp.back (U' := (T102.setTop (mkF m 147 #[.val (.int p0), .val (.int p1), .val (.int p2), .val (.int (2 : Int32)), .val (.ref b65_0), .val (.ref b67), .val (.ref b83), .val (.int (0 : Int32))] [(.int (2 : Int32))]))) (fun t k => st102.trans k) ?_
      refine Wp.back (U' := (T102.setTop (mkF m 156 #[.val (.int p0), .val (.int p1), .val (.int p2), .val (.int (2 : Int32)), .val (.ref b65_0), .val (.ref b67), .val (.ref b83), .val (.int (0 : Int32))] [(.int (1 : Int32))]))) (fun t k => XS.iloadN X102.here hx rfl (hb hby at_147) rfl (XS.icmpNo X102.here hx rfl (hb hby at_148) rfl (teq (by decide)).2 (XT.iconstV X102.here hx rfl (1 : Int32) (hb hby at_151) (by decide) (XS.goto X102.here hx rfl (pc0 := 152) (pc' := 156) rfl (hb hby at_152) (by decide) (by decide) k)))) ?_
      obtain ⟨fs, hr, hrun, hended, hW, hsame⟩ := X102.leave (v := (some (.int (1 : Int32)))) (fun h => by rw [hret] at h; cases h)
      refine Wp.done (retN X102 hx (t := .boolean) hret (by simp) (hb hby at_156) hr) hrun hended ⟨_, _, rfl, ?_, ⟨_, rfl⟩, hW, hsame.mono (by decide) (by decide)⟩
      show QL n0 _ T102.heap _
      exact ⟨rfl, N102⟩
  · rw [hk4]
    refine Wp.back (U' := (s₁.setTop (mkF m 10 #[.val (.int p0), .val (.int p1), .val (.int p2), .val (.int (3 : Int32)), .unset, .unset, .unset, .unset] [(.int ((p2 &&& (255 : Int32))).toUInt32.toUInt16.toUInt32.toInt32)]))) (fun t k => XS.iloadN X0.here hx rfl (hb hby at_4) rfl (XT.sipushV X0.here hx rfl (255 : Int32) (hb hby at_5) (by decide) (XS.iand X0.here hx rfl (hb hby at_8) rfl (XS.i2c X0.here hx rfl (hb hby at_9) rfl k)))) ?_
    obtain ⟨_, _, ⟨T104, L104, k104, n104⟩, -, X104, ⟨Lc104, hQ104, l104, y104, z104⟩, st104⟩ := Jvm.LawKit.callS X0 hx (y := (⟨"java/lang/String", "valueOf", "(C)Ljava/lang/String;"⟩ : MethodName)) hown (mvT hZ (hw _ (List.mem_of_getElem? (i := 0) rfl))) (mvT hZ (hw _ (List.mem_of_getElem? (i := 1) rfl))) (mvT hZ (hw _ (List.mem_of_getElem? (i := 2) rfl))) (mvT hZ (hw _ (List.mem_of_getElem? (i := 3) rfl))) (by decide) (backOf (W := 0) (rm_vo l Z a0 hw [] ((p2 &&& (255 : Int32))).toUInt32.toUInt16.toUInt32.toInt32 cs h0 n0 Z0 PC hcs (own_255 p2)) hZ (hw _ (List.mem_of_getElem? (i := 3) rfl)) (hw _ (List.mem_of_getElem? (i := 2) rfl)) (by decide) (by decide)) (g := (mkF m 10 #[.val (.int p0), .val (.int p1), .val (.int p2), .val (.int (3 : Int32)), .unset, .unset, .unset, .unset] [(.int ((p2 &&& (255 : Int32))).toUInt32.toUInt16.toUInt32.toInt32)])) rfl (by rw [hml]; rfl) (argsL := [(.int ((p2 &&& (255 : Int32))).toUInt32.toUInt16.toUInt32.toInt32)]) (rest := []) (lenOf pd0_0 rfl) rfl (by show 2 * 0 + _ ≤ _; exact Nat.le_of_eq rfl) (hb hby at_10) (fun _ _ => ⟨rfl, e0, (by decide : 0 + 2 ≤ _), (by decide : 0 + 5 ≤ _)⟩)
    dsimp only [Pt.U, Pt.locs, Pt.cells, Pt.slots] at X104 l104 y104 z104 st104 hQ104
    subst l104 y104 z104
    obtain ⟨b104_0, rfl, N104q, K104, sf104_0, o104_0⟩ := hQ104
    have ne_de_b104_0 : de ≠ b104_0 := Nat.ne_of_lt (Nat.lt_of_lt_of_le PA.lt sf104_0)
    have g_b104_0 : n0 ≤ b104_0 := Nat.le_trans Z0 sf104_0
    have f105_0 := Nat.le_trans Z0 K104.1
    have f105_1 := Sta_keep0 PC K104
    have f105_2 := Sta_keep0 PD K104
    have f105_3 := PA.keep K104 nin0
    have N104 := Fr.app N0 N104q
    refine Wp.back (U' := (T104.setTop (mkF m 13 #[.val (.int p0), .val (.int p1), .val (.int p2), .val (.int (3 : Int32)), .unset, .unset, .unset, .unset] [(.ref b104_0)]))) st104 ?_
    refine Wp.back (U' := (T104.setTop (mkF m 15 #[.val (.int p0), .val (.int p1), .val (.int p2), .val (.int (3 : Int32)), .val (.ref b104_0), .unset, .unset, .unset] []))) (fun t k => XS.astore X104.here hx rfl (hb hby at_13) rfl rfl (l' := #[.val (.int p0), .val (.int p1), .val (.int p2), .val (.int (3 : Int32)), .val (.ref b104_0), .unset, .unset, .unset]) rfl k) ?_
    obtain ⟨T106, h106, X106, e106, E106, A106, D106, -, st106⟩ := newO X104 hx hZ hown (hw _ (List.mem_of_getElem? (i := 26) rfl)) (hw _ (List.mem_of_getElem? (i := 27) rfl)) (hw _ (List.mem_of_getElem? (i := 28) rfl)) rfl (g := (mkF m 15 #[.val (.int p0), .val (.int p1), .val (.int p2), .val (.int (3 : Int32)), .val (.ref b104_0), .unset, .unset, .unset] [])) rfl (hb hby at_15) (by decide) (by decide)
    obtain ⟨b106, g106⟩ : ∃ z, z = T104.heap.size := ⟨_, rfl⟩
    rw [← g106] at A106 D106 st106
    have ne_de_b106 : de ≠ b106 := Nat.ne_of_lt (Nat.lt_of_lt_of_le f105_3.lt (Nat.le_of_eq g106.symm))
    have ne_b104_0_b106 : b104_0 ≠ b106 := Nat.ne_of_lt (Nat.lt_of_lt_of_le o104_0.lt (Nat.le_of_eq g106.symm))
    have g_b106 : n0 ≤ b106 := Nat.le_trans f105_0 (Nat.le_of_eq g106.symm)
    have f107_0 := Nat.le_trans f105_0 E106.1
    have f107_1 := f105_1.ext E106
    have f107_2 := f105_2.ext E106
    have f107_3 := f105_3.ext E106
    have f107_4 := o104_0.ext E106
    have F106_46 : Fld Z h106 b106 "java/util/AbstractList" "modCount" "I" (.int (0 : Int32)) := D106 (Or.inl (hw _ (List.mem_of_getElem? (i := 46) rfl))) (ty := .int) (by decide)
    have F106_49 : Fld Z h106 b106 "java/util/ArrayList" "elementData" "[Ljava/lang/Object;" .null := D106 (Or.inl (hw _ (List.mem_of_getElem? (i := 49) rfl))) (ty := (.array (.object "java/lang/Object"))) (by decide)
    have F106_76 : Fld Z h106 b106 "java/util/ArrayList" "size" "I" (.int (0 : Int32)) := D106 (Or.inl (hw _ (List.mem_of_getElem? (i := 76) rfl))) (ty := .int) (by decide)
    refine Wp.back (U' := (T106.setTop (mkF m 18 #[.val (.int p0), .val (.int p1), .val (.int p2), .val (.int (3 : Int32)), .val (.ref b104_0), .unset, .unset, .unset] [(.ref b106)]))) st106 ?_
    refine Wp.back (U' := (T106.setTop (mkF m 19 #[.val (.int p0), .val (.int p1), .val (.int p2), .val (.int (3 : Int32)), .val (.ref b104_0), .unset, .unset, .unset] [(.ref b106), (.ref b106)]))) (fun t k => XS.dup X106.here hx rfl (hb hby at_18) rfl rfl k) ?_
    obtain ⟨_, _, ⟨T108, L108, k108, n108⟩, -, X108, ⟨Lc108, hQ108, l108, y108, z108⟩, st108⟩ := X106.specialBack hx (y := (⟨"java/util/ArrayList", "<init>", "()V"⟩ : MethodName)) rfl hown (mvT hZ (hw _ (List.mem_of_getElem? (i := 29) rfl))) (mvT hZ (hw _ (List.mem_of_getElem? (i := 30) rfl))) (mvT hZ (hw _ (List.mem_of_getElem? (i := 31) rfl))) (by decide) (backOf (W := 1) (rm_al l Z a0 hw [] b106 de h106 n0 f107_0 A106 F106_46 F106_49 F106_76 f107_2 g_b106) hZ (hw _ (List.mem_of_getElem? (i := 31) rfl)) (hw _ (List.mem_of_getElem? (i := 28) rfl)) (by decide) (by decide)) (g := (mkF m 19 #[.val (.int p0), .val (.int p1), .val (.int p2), .val (.int (3 : Int32)), .val (.ref b104_0), .unset, .unset, .unset] [(.ref b106), (.ref b106)])) rfl (by rw [hml]; rfl) (Steps.refl _) (a := b106) (argsL := []) (rest := [(.ref b106)]) (lenOf pd0_1 rfl) rfl (by show 2 * 0 + _ ≤ _; exact Nat.le_of_eq rfl) (hb hby at_19) (fun _ _ => ⟨rfl, e106, (by decide : 3 + 0 ≤ _), (by decide : 8 + 0 ≤ _)⟩)
    dsimp only [Pt.U, Pt.locs, Pt.cells, Pt.slots] at X108 l108 y108 z108 st108 hQ108
    subst l108 y108 z108
    obtain ⟨rfl, N108q, K108, o108_0, o108_1, o108_2, o108_3⟩ := hQ108
    have f109_0 := Nat.le_trans f107_0 K108.1
    have f109_1 := Sta_keep f107_1 K108 (allS (Exa_ns A106) all0)
    have f109_2 := Sta_keep f107_2 K108 (allS (Exa_ns A106) all0)
    have f109_3 := f107_3.keep K108 (ninS ne_de_b106 nin0)
    have f109_4 := f107_4.keep K108
    have f109_5 := A106.keep K108
    have N108 := Fr.app N104 N108q
    refine Wp.back (U' := (T108.setTop (mkF m 22 #[.val (.int p0), .val (.int p1), .val (.int p2), .val (.int (3 : Int32)), .val (.ref b104_0), .unset, .unset, .unset] [(.ref b106)]))) (fun t k => st108.trans k) ?_
    refine Wp.back (U' := (T108.setTop (mkF m 30 #[.val (.int p0), .val (.int p1), .val (.int p2), .val (.int (3 : Int32)), .val (.ref b104_0), .val (.ref b106), .unset, .unset] [(.ref b106)]))) (fun t k => XS.astore X108.here hx rfl (hb hby at_22) rfl rfl (l' := #[.val (.int p0), .val (.int p1), .val (.int p2), .val (.int (3 : Int32)), .val (.ref b104_0), .val (.ref b106), .unset, .unset]) rfl (XS.iloadN X108.here hx rfl (hb hby at_24) rfl (XS.ifNo X108.here hx rfl (hb hby at_25) rfl ((if0 _ _).trans (tlt (by decide)).2.2.2) (XS.aload X108.here hx rfl (hb hby at_28) rfl rfl k)))) ?_
    obtain ⟨T110, h110, X110, e110, E110, A110, D110, -, st110⟩ := newO X108 hx hZ hown (hw _ (List.mem_of_getElem? (i := 50) rfl)) (hw _ (List.mem_of_getElem? (i := 51) rfl)) (hw _ (List.mem_of_getElem? (i := 52) rfl)) rfl (g := (mkF m 30 #[.val (.int p0), .val (.int p1), .val (.int p2), .val (.int (3 : Int32)), .val (.ref b104_0), .val (.ref b106), .unset, .unset] [(.ref b106)])) rfl (hb hby at_30) (by decide) (by decide)
    obtain ⟨b110, g110⟩ : ∃ z, z = T108.heap.size := ⟨_, rfl⟩
    rw [← g110] at A110 D110 st110
    have ne_de_b110 : de ≠ b110 := Nat.ne_of_lt (Nat.lt_of_lt_of_le f109_3.lt (Nat.le_of_eq g110.symm))
    have ne_b104_0_b110 : b104_0 ≠ b110 := Nat.ne_of_lt (Nat.lt_of_lt_of_le f109_4.lt (Nat.le_of_eq g110.symm))
    have ne_b106_b110 : b106 ≠ b110 := Nat.ne_of_lt (Nat.lt_of_lt_of_le o108_0.lt (Nat.le_of_eq g110.symm))
    have g_b110 : n0 ≤ b110 := Nat.le_trans f109_0 (Nat.le_of_eq g110.symm)
    have f111_0 := Nat.le_trans f109_0 E110.1
    have f111_1 := f109_1.ext E110
    have f111_2 := f109_2.ext E110
    have f111_3 := f109_3.ext E110
    have f111_4 := f109_4.ext E110
    have f111_5 := o108_0.ext E110
    have f111_6 := o108_1.ext E110
    have f111_7 := o108_2.ext E110
    have f111_8 := o108_3.ext E110
    have F110_63 : Fld Z h110 b110 "com/example/treewright/treewright/schema/AugmentTarget$Step" "prefix" "Ljava/lang/String;" .null := D110 (Or.inr (hw _ (List.mem_of_getElem? (i := 63) rfl))) (ty := (.object "java/lang/String")) (by decide)
    have F110_65 : Fld Z h110 b110 "com/example/treewright/treewright/schema/AugmentTarget$Step" "module" "Ljava/lang/String;" .null := D110 (Or.inr (hw _ (List.mem_of_getElem? (i := 65) rfl))) (ty := (.object "java/lang/String")) (by decide)
    have F110_67 : Fld Z h110 b110 "com/example/treewright/treewright/schema/AugmentTarget$Step" "name" "Ljava/lang/String;" .null := D110 (Or.inr (hw _ (List.mem_of_getElem? (i := 67) rfl))) (ty := (.object "java/lang/String")) (by decide)
    refine Wp.back (U' := (T110.setTop (mkF m 33 #[.val (.int p0), .val (.int p1), .val (.int p2), .val (.int (3 : Int32)), .val (.ref b104_0), .val (.ref b106), .unset, .unset] [(.ref b110), (.ref b106)]))) st110 ?_
    refine Wp.back (U' := (T110.setTop (mkF m 40 #[.val (.int p0), .val (.int p1), .val (.int p2), .val (.int (3 : Int32)), .val (.ref b104_0), .val (.ref b106), .unset, .unset] [(.ref b104_0), (.ref b104_0), (.ref b104_0), (.ref b110), (.ref b110), (.ref b106)]))) (fun t k => XS.dup X110.here hx rfl (hb hby at_33) rfl rfl (XS.aload X110.here hx rfl (hb hby at_34) rfl rfl (XS.aload X110.here hx rfl (hb hby at_36) rfl rfl (XS.aload X110.here hx rfl (hb hby at_38) rfl rfl k)))) ?_
    obtain ⟨_, _, ⟨T112, L112, k112, n112⟩, -, X112, ⟨Lc112, hQ112, l112, y112, z112⟩, st112⟩ := X110.specialBack hx (y := (⟨"com/example/treewright/treewright/schema/AugmentTarget$Step", "<init>", "(Ljava/lang/String;Ljava/lang/String;Ljava/lang/String;)V"⟩ : MethodName)) rfl hown (mvT hZ (hw _ (List.mem_of_getElem? (i := 53) rfl))) (mvT hZ (hw _ (List.mem_of_getElem? (i := 54) rfl))) (mvT hZ (hw _ (List.mem_of_getElem? (i := 55) rfl))) (by decide) (backOf (W := 2) (rm_sp l Z a0 hw [] b110 b104_0 b104_0 b104_0  h110 n0 f111_0 A110 F110_63 F110_65 F110_67 g_b110) hZ (hw _ (List.mem_of_getElem? (i := 55) rfl)) (hw _ (List.mem_of_getElem? (i := 52) rfl)) (by decide) (by decide)) (g := (mkF m 40 #[.val (.int p0), .val (.int p1), .val (.int p2), .val (.int (3 : Int32)), .val (.ref b104_0), .val (.ref b106), .unset, .unset] [(.ref b104_0), (.ref b104_0), (.ref b104_0), (.ref b110), (.ref b110), (.ref b106)])) rfl (by rw [hml]; rfl) (Steps.refl _) (a := b110) (argsL := [(.ref b104_0), (.ref b104_0), (.ref b104_0)]) (rest := [(.ref b110), (.ref b106)]) (lenOf pd0_6 rfl) rfl (by show 2 * 0 + _ ≤ _; exact Nat.le_of_eq rfl) (hb hby at_40) (fun _ _ => ⟨rfl, e110, (by decide : 4 + 0 ≤ _), (by decide : 11 + 0 ≤ _)⟩)
    dsimp only [Pt.U, Pt.locs, Pt.cells, Pt.slots] at X112 l112 y112 z112 st112 hQ112
    subst l112 y112 z112
    obtain ⟨rfl, N112q, K112, o112_0⟩ := hQ112
    have f113_0 := Nat.le_trans f111_0 K112.1
    have f113_1 := Sta_keep f111_1 K112 (allS (Exa_ns A110) all0)
    have f113_2 := Sta_keep f111_2 K112 (allS (Exa_ns A110) all0)
    have f113_3 := f111_3.keep K112 (ninS ne_de_b110 nin0)
    have f113_4 := f111_4.keep K112
    have f113_5 := f111_5.keep K112
    have f113_6 := f111_6.keep K112 (ninS ne_b106_b110 nin0)
    have f113_7 := f111_7.keep K112 (ninS ne_b106_b110 nin0)
    have f113_8 := f111_8.keep K112 (ninS ne_b106_b110 nin0)
    have f113_9 := A110.keep K112
    have N112 := Fr.app N108 N112q
    refine Wp.back (U' := (T112.setTop (mkF m 43 #[.val (.int p0), .val (.int p1), .val (.int p2), .val (.int (3 : Int32)), .val (.ref b104_0), .val (.ref b106), .unset, .unset] [(.ref b110), (.ref b106)]))) (fun t k => st112.trans k) ?_
    obtain ⟨cq114, kq114, q114a, q114b, q114c⟩ := isOf hZ rfl f113_5
    obtain ⟨_, _, ⟨T114, L114, k114, n114⟩, -, X114, ⟨Lc114, hQ114, l114, y114, z114⟩, st114⟩ := X112.virtualBack hx (y := (⟨"java/util/ArrayList", "add", "(Ljava/lang/Object;)Z"⟩ : MethodName)) (z := (⟨"java/util/ArrayList", "add", "(Ljava/lang/Object;)Z"⟩ : MethodName)) hown (mvT hZ (hw _ (List.mem_of_getElem? (i := 68) rfl))) (mvT hZ (hw _ (List.mem_of_getElem? (i := 69) rfl))) (notFace_of_selects (args := #[]) (mvT hZ (hw _ (List.mem_of_getElem? (i := 71) rfl)))) (mvT hZ (hw _ (List.mem_of_getElem? (i := 71) rfl))) (mvT hZ (hw _ (List.mem_of_getElem? (i := 70) rfl))) (by decide) (backOf (W := 0) (rm_ad0 l Z a0 hw [] b106 b110 de ke T112.heap n0 f113_0 f113_5 o112_0 f113_7 f113_8 f113_2 f113_3 f113_6 g_b106 (Ne.symm ne_b106_b110) (Ne.symm ne_de_b106)) hZ (hw _ (List.mem_of_getElem? (i := 72) rfl)) (hw _ (List.mem_of_getElem? (i := 28) rfl)) (by decide) (by decide)) q114a q114c (g := (mkF m 43 #[.val (.int p0), .val (.int p1), .val (.int p2), .val (.int (3 : Int32)), .val (.ref b104_0), .val (.ref b106), .unset, .unset] [(.ref b110), (.ref b106)])) rfl (by rw [hml]; rfl) (Steps.refl _) (argsL := [(.ref b110)]) (rest := []) (lenOf pd0_7 rfl) rfl (by show 2 * 0 + _ ≤ _; exact Nat.le_of_eq rfl) (hb hby at_43) (fun _ _ => ⟨rfl, rfl, (by decide : 4 + 1 ≤ _), (by decide : 11 + 10 ≤ _)⟩)
    dsimp only [Pt.U, Pt.locs, Pt.cells, Pt.slots] at X114 l114 y114 z114 st114 hQ114
    subst l114 y114 z114
    obtain ⟨b114_0, k114_0, rfl, N114q, K114, sf114_0, o114_0, o114_1, o114_2, o114_3, o114_4, o114_5⟩ := hQ114
    have ne_de_b114_0 : de ≠ b114_0 := Nat.ne_of_lt (Nat.lt_of_lt_of_le f113_3.lt sf114_0)
    have ne_b104_0_b114_0 : b104_0 ≠ b114_0 := Nat.ne_of_lt (Nat.lt_of_lt_of_le f113_4.lt sf114_0)
    have ne_b106_b114_0 : b106 ≠ b114_0 := Nat.ne_of_lt (Nat.lt_of_lt_of_le f113_5.lt sf114_0)
    have ne_b110_b114_0 : b110 ≠ b114_0 := Nat.ne_of_lt (Nat.lt_of_lt_of_le o112_0.lt sf114_0)
    have g_b114_0 : n0 ≤ b114_0 := Nat.le_trans f113_0 sf114_0
    have f115_0 := Nat.le_trans f113_0 K114.1
    have f115_1 := Sta_keep f113_1 K114 (allS (Exa_ns f113_5) all0)
    have f115_2 := Sta_keep f113_2 K114 (allS (Exa_ns f113_5) all0)
    have f115_3 := f113_3.keep K114 (ninS ne_de_b106 nin0)
    have f115_4 := f113_4.keep K114
    have f115_5 := f113_5.keep K114
    have f115_9 := o112_0.keep K114
    have N114 := Fr.app N112 N114q
    refine Wp.back (U' := (T114.setTop (mkF m 46 #[.val (.int p0), .val (.int p1), .val (.int p2), .val (.int (3 : Int32)), .val (.ref b104_0), .val (.ref b106), .unset, .unset] [(.int (1 : Int32))]))) (fun t k => st114.trans k) ?_
    refine Wp.back (U' := (T114.setTop (mkF m 54 #[.val (.int p0), .val (.int p1), .val (.int p2), .val (.int (3 : Int32)), .val (.ref b104_0), .val (.ref b106), .unset, .unset] [(.ref b106)]))) (fun t k => XS.pop X114.here hx rfl (hb hby at_46) rfl rfl (XS.iloadN X114.here hx rfl (hb hby at_47) rfl (XT.iconstV X114.here hx rfl (1 : Int32) (hb hby at_48) (by decide) (XS.icmpNo X114.here hx rfl (hb hby at_49) rfl (tlt (by decide)).2.2.2 (XS.aload X114.here hx rfl (hb hby at_52) rfl rfl k))))) ?_
    obtain ⟨T116, h116, X116, e116, E116, A116, D116, -, st116⟩ := newO X114 hx hZ hown (hw _ (List.mem_of_getElem? (i := 50) rfl)) (hw _ (List.mem_of_getElem? (i := 51) rfl)) (hw _ (List.mem_of_getElem? (i := 52) rfl)) rfl (g := (mkF m 54 #[.val (.int p0), .val (.int p1), .val (.int p2), .val (.int (3 : Int32)), .val (.ref b104_0), .val (.ref b106), .unset, .unset] [(.ref b106)])) rfl (hb hby at_54) (by decide) (by decide)
    obtain ⟨b116, g116⟩ : ∃ z, z = T114.heap.size := ⟨_, rfl⟩
    rw [← g116] at A116 D116 st116
    have ne_de_b116 : de ≠ b116 := Nat.ne_of_lt (Nat.lt_of_lt_of_le f115_3.lt (Nat.le_of_eq g116.symm))
    have ne_b104_0_b116 : b104_0 ≠ b116 := Nat.ne_of_lt (Nat.lt_of_lt_of_le f115_4.lt (Nat.le_of_eq g116.symm))
    have ne_b106_b116 : b106 ≠ b116 := Nat.ne_of_lt (Nat.lt_of_lt_of_le o114_0.lt (Nat.le_of_eq g116.symm))
    have ne_b110_b116 : b110 ≠ b116 := Nat.ne_of_lt (Nat.lt_of_lt_of_le f115_9.lt (Nat.le_of_eq g116.symm))
    have ne_b114_0_b116 : b114_0 ≠ b116 := Nat.ne_of_lt (Nat.lt_of_lt_of_le o114_4.lt (Nat.le_of_eq g116.symm))
    have g_b116 : n0 ≤ b116 := Nat.le_trans f115_0 (Nat.le_of_eq g116.symm)
    have f117_0 := Nat.le_trans f115_0 E116.1
    have f117_1 := f115_1.ext E116
    have f117_2 := f115_2.ext E116
    have f117_3 := f115_3.ext E116
    have f117_4 := f115_4.ext E116
    have f117_5 := o114_0.ext E116
    have f117_6 := f115_9.ext E116
    have f117_7 := o114_1.ext E116
    have f117_8 := o114_2.ext E116
    have f117_9 := o114_3.ext E116
    have f117_10 := o114_4.ext E116
    have F116_63 : Fld Z h116 b116 "com/example/treewright/treewright/schema/AugmentTarget$Step" "prefix" "Ljava/lang/String;" .null := D116 (Or.inr (hw _ (List.mem_of_getElem? (i := 63) rfl))) (ty := (.object "java/lang/String")) (by decide)
    have F116_65 : Fld Z h116 b116 "com/example/treewright/treewright/schema/AugmentTarget$Step" "module" "Ljava/lang/String;" .null := D116 (Or.inr (hw _ (List.mem_of_getElem? (i := 65) rfl))) (ty := (.object "java/lang/String")) (by decide)
    have F116_67 : Fld Z h116 b116 "com/example/treewright/treewright/schema/AugmentTarget$Step" "name" "Ljava/lang/String;" .null := D116 (Or.inr (hw _ (List.mem_of_getElem? (i := 67) rfl))) (ty := (.object "java/lang/String")) (by decide)
    refine Wp.back (U' := (T116.setTop (mkF m 57 #[.val (.int p0), .val (.int p1), .val (.int p2), .val (.int (3 : Int32)), .val (.ref b104_0), .val (.ref b106), .unset, .unset] [(.ref b116), (.ref b106)]))) st116 ?_
    refine Wp.back (U' := (T116.setTop (mkF m 64 #[.val (.int p0), .val (.int p1), .val (.int p2), .val (.int (3 : Int32)), .val (.ref b104_0), .val (.ref b106), .unset, .unset] [(.ref b104_0), (.ref b104_0), (.ref b104_0), (.ref b116), (.ref b116), (.ref b106)]))) (fun t k => XS.dup X116.here hx rfl (hb hby at_57) rfl rfl (XS.aload X116.here hx rfl (hb hby at_58) rfl rfl (XS.aload X116.here hx rfl (hb hby at_60) rfl rfl (XS.aload X116.here hx rfl (hb hby at_62) rfl rfl k)))) ?_
    obtain ⟨_, _, ⟨T118, L118, k118, n118⟩, -, X118, ⟨Lc118, hQ118, l118, y118, z118⟩, st118⟩ := X116.specialBack hx (y := (⟨"com/example/treewright/treewright/schema/AugmentTarget$Step", "<init>", "(Ljava/lang/String;Ljava/lang/String;Ljava/lang/String;)V"⟩ : MethodName)) rfl hown (mvT hZ (hw _ (List.mem_of_getElem? (i := 53) rfl))) (mvT hZ (hw _ (List.mem_of_getElem? (i := 54) rfl))) (mvT hZ (hw _ (List.mem_of_getElem? (i := 55) rfl))) (by decide) (backOf (W := 2) (rm_sp l Z a0 hw [] b116 b104_0 b104_0 b104_0  h116 n0 f117_0 A116 F116_63 F116_65 F116_67 g_b116) hZ (hw _ (List.mem_of_getElem? (i := 55) rfl)) (hw _ (List.mem_of_getElem? (i := 52) rfl)) (by decide) (by decide)) (g := (mkF m 64 #[.val (.int p0), .val (.int p1), .val (.int p2), .val (.int (3 : Int32)), .val (.ref b104_0), .val (.ref b106), .unset, .unset] [(.ref b104_0), (.ref b104_0), (.ref b104_0), (.ref b116), (.ref b116), (.ref b106)])) rfl (by rw [hml]; rfl) (Steps.refl _) (a := b116) (argsL := [(.ref b104_0), (.ref b104_0), (.ref b104_0)]) (rest := [(.ref b116), (.ref b106)]) (lenOf pd0_6 rfl) rfl (by show 2 * 0 + _ ≤ _; exact Nat.le_of_eq rfl) (hb hby at_64) (fun _ _ => ⟨rfl, e116, (by decide : 6 + 0 ≤ _), (by decide : 24 + 0 ≤ _)⟩)
    dsimp only [Pt.U, Pt.locs, Pt.cells, Pt.slots] at X118 l118 y118 z118 st118 hQ118
    subst l118 y118 z118
    obtain ⟨rfl, N118q, K118, o118_0⟩ := hQ118
    have f119_0 := Nat.le_trans f117_0 K118.1
    have f119_1 := Sta_keep f117_1 K118 (allS (Exa_ns A116) all0)
    have f119_2 := Sta_keep f117_2 K118 (allS (Exa_ns A116) all0)
    have f119_3 := f117_3.keep K118 (ninS ne_de_b116 nin0)
    have f119_4 := f117_4.keep K118
    have f119_5 := f117_5.keep K118
    have f119_6 := f117_6.keep K118
    have f119_7 := f117_7.keep K118 (ninS ne_b106_b116 nin0)
    have f119_8 := f117_8.keep K118 (ninS ne_b106_b116 nin0)
    have f119_9 := f117_9.keep K118 (ninS ne_b106_b116 nin0)
    have f119_10 := f117_10.keep K118 (ninS ne_b114_0_b116 nin0)
    have f119_12 := A116.keep K118
    have N118 := Fr.app N114 N118q
    refine Wp.back (U' := (T118.setTop (mkF m 67 #[.val (.int p0), .val (.int p1), .val (.int p2), .val (.int (3 : Int32)), .val (.ref b104_0), .val (.ref b106), .unset, .unset] [(.ref b116), (.ref b106)]))) (fun t k => st118.trans k) ?_
    obtain ⟨cq120, kq120, q120a, q120b, q120c⟩ := isOf hZ rfl f119_5
    obtain ⟨_, _, ⟨T120, L120, k120, n120⟩, -, X120, ⟨Lc120, hQ120, l120, y120, z120⟩, st120⟩ := X118.virtualBack hx (y := (⟨"java/util/ArrayList", "add", "(Ljava/lang/Object;)Z"⟩ : MethodName)) (z := (⟨"java/util/ArrayList", "add", "(Ljava/lang/Object;)Z"⟩ : MethodName)) hown (mvT hZ (hw _ (List.mem_of_getElem? (i := 68) rfl))) (mvT hZ (hw _ (List.mem_of_getElem? (i := 69) rfl))) (notFace_of_selects (args := #[]) (mvT hZ (hw _ (List.mem_of_getElem? (i := 71) rfl)))) (mvT hZ (hw _ (List.mem_of_getElem? (i := 71) rfl))) (mvT hZ (hw _ (List.mem_of_getElem? (i := 70) rfl))) (by decide) (backOf (W := 0) (rm_ad1 l Z a0 hw [] b106 b116 b114_0 k114_0 b110 T118.heap n0 f119_0 f119_5 o118_0 f119_8 f119_9 f119_10 o114_5 f119_7 g_b106 g_b114_0 (Ne.symm ne_b106_b116) (Ne.symm ne_b114_0_b116) ne_b106_b114_0) hZ (hw _ (List.mem_of_getElem? (i := 72) rfl)) (hw _ (List.mem_of_getElem? (i := 28) rfl)) (by decide) (by decide)) q120a q120c (g := (mkF m 67 #[.val (.int p0), .val (.int p1), .val (.int p2), .val (.int (3 : Int32)), .val (.ref b104_0), .val (.ref b106), .unset, .unset] [(.ref b116), (.ref b106)])) rfl (by rw [hml]; rfl) (Steps.refl _) (argsL := [(.ref b116)]) (rest := []) (lenOf pd0_7 rfl) rfl (by show 2 * 0 + _ ≤ _; exact Nat.le_of_eq rfl) (hb hby at_67) (fun _ _ => ⟨rfl, rfl, (by decide : 6 + 0 ≤ _), (by decide : 24 + 0 ≤ _)⟩)
    dsimp only [Pt.U, Pt.locs, Pt.cells, Pt.slots] at X120 l120 y120 z120 st120 hQ120
    subst l120 y120 z120
    obtain ⟨rfl, N120q, K120, o120_0, o120_1, o120_2, o120_3, o120_4, o120_5⟩ := hQ120
    have f121_0 := Nat.le_trans f119_0 K120.1
    have f121_1 := Sta_keep f119_1 K120 (allS (Exa_ns f119_5) (allS (Arv_ns f119_10) all0))
    have f121_2 := Sta_keep f119_2 K120 (allS (Exa_ns f119_5) (allS (Arv_ns f119_10) all0))
    have f121_3 := f119_3.keep K120 (ninS ne_de_b106 (ninS ne_de_b114_0 nin0))
    have f121_4 := f119_4.keep K120
    have f121_5 := f119_5.keep K120
    have f121_6 := f119_6.keep K120
    have f121_12 := o118_0.keep K120
    have N120 := Fr.app N118 N120q
    refine Wp.back (U' := (T120.setTop (mkF m 70 #[.val (.int p0), .val (.int p1), .val (.int p2), .val (.int (3 : Int32)), .val (.ref b104_0), .val (.ref b106), .unset, .unset] [(.int (1 : Int32))]))) (fun t k => st120.trans k) ?_
    refine Wp.back (U' := (T120.setTop (mkF m 78 #[.val (.int p0), .val (.int p1), .val (.int p2), .val (.int (3 : Int32)), .val (.ref b104_0), .val (.ref b106), .unset, .unset] [(.ref b106)]))) (fun t k => XS.pop X120.here hx rfl (hb hby at_70) rfl rfl (XS.iloadN X120.here hx rfl (hb hby at_71) rfl (XT.iconstV X120.here hx rfl (2 : Int32) (hb hby at_72) (by decide) (XS.icmpNo X120.here hx rfl (hb hby at_73) rfl (tlt (by decide)).2.2.2 (XS.aload X120.here hx rfl (hb hby at_76) rfl rfl k))))) ?_
    obtain ⟨T122, h122, X122, e122, E122, A122, D122, -, st122⟩ := newO X120 hx hZ hown (hw _ (List.mem_of_getElem? (i := 50) rfl)) (hw _ (List.mem_of_getElem? (i := 51) rfl)) (hw _ (List.mem_of_getElem? (i := 52) rfl)) rfl (g := (mkF m 78 #[.val (.int p0), .val (.int p1), .val (.int p2), .val (.int (3 : Int32)), .val (.ref b104_0), .val (.ref b106), .unset, .unset] [(.ref b106)])) rfl (hb hby at_78) (by decide) (by decide)
    obtain ⟨b122, g122⟩ : ∃ z, z = T120.heap.size := ⟨_, rfl⟩
    rw [← g122] at A122 D122 st122
    have ne_de_b122 : de ≠ b122 := Nat.ne_of_lt (Nat.lt_of_lt_of_le f121_3.lt (Nat.le_of_eq g122.symm))
    have ne_b104_0_b122 : b104_0 ≠ b122 := Nat.ne_of_lt (Nat.lt_of_lt_of_le f121_4.lt (Nat.le_of_eq g122.symm))
    have ne_b106_b122 : b106 ≠ b122 := Nat.ne_of_lt (Nat.lt_of_lt_of_le o120_0.lt (Nat.le_of_eq g122.symm))
    have ne_b110_b122 : b110 ≠ b122 := Nat.ne_of_lt (Nat.lt_of_lt_of_le f121_6.lt (Nat.le_of_eq g122.symm))
    have ne_b114_0_b122 : b114_0 ≠ b122 := Nat.ne_of_lt (Nat.lt_of_lt_of_le o120_4.lt (Nat.le_of_eq g122.symm))
    have ne_b116_b122 : b116 ≠ b122 := Nat.ne_of_lt (Nat.lt_of_lt_of_le f121_12.lt (Nat.le_of_eq g122.symm))
    have g_b122 : n0 ≤ b122 := Nat.le_trans f121_0 (Nat.le_of_eq g122.symm)
    have f123_0 := Nat.le_trans f121_0 E122.1
    have f123_1 := f121_1.ext E122
    have f123_2 := f121_2.ext E122
    have f123_3 := f121_3.ext E122
    have f123_4 := f121_4.ext E122
    have f123_5 := o120_0.ext E122
    have f123_6 := f121_6.ext E122
    have f123_8 := f121_12.ext E122
    have f123_9 := o120_1.ext E122
    have f123_10 := o120_2.ext E122
    have f123_11 := o120_3.ext E122
    have f123_12 := o120_4.ext E122
    have F122_63 : Fld Z h122 b122 "com/example/treewright/treewright/schema/AugmentTarget$Step" "prefix" "Ljava/lang/String;" .null := D122 (Or.inr (hw _ (List.mem_of_getElem? (i := 63) rfl))) (ty := (.object "java/lang/String")) (by decide)
    have F122_65 : Fld Z h122 b122 "com/example/treewright/treewright/schema/AugmentTarget$Step" "module" "Ljava/lang/String;" .null := D122 (Or.inr (hw _ (List.mem_of_getElem? (i := 65) rfl))) (ty := (.object "java/lang/String")) (by decide)
    have F122_67 : Fld Z h122 b122 "com/example/treewright/treewright/schema/AugmentTarget$Step" "name" "Ljava/lang/String;" .null := D122 (Or.inr (hw _ (List.mem_of_getElem? (i := 67) rfl))) (ty := (.object "java/lang/String")) (by decide)
    refine Wp.back (U' := (T122.setTop (mkF m 81 #[.val (.int p0), .val (.int p1), .val (.int p2), .val (.int (3 : Int32)), .val (.ref b104_0), .val (.ref b106), .unset, .unset] [(.ref b122), (.ref b106)]))) st122 ?_
    refine Wp.back (U' := (T122.setTop (mkF m 88 #[.val (.int p0), .val (.int p1), .val (.int p2), .val (.int (3 : Int32)), .val (.ref b104_0), .val (.ref b106), .unset, .unset] [(.ref b104_0), (.ref b104_0), (.ref b104_0), (.ref b122), (.ref b122), (.ref b106)]))) (fun t k => XS.dup X122.here hx rfl (hb hby at_81) rfl rfl (XS.aload X122.here hx rfl (hb hby at_82) rfl rfl (XS.aload X122.here hx rfl (hb hby at_84) rfl rfl (XS.aload X122.here hx rfl (hb hby at_86) rfl rfl k)))) ?_
    obtain ⟨_, _, ⟨T124, L124, k124, n124⟩, -, X124, ⟨Lc124, hQ124, l124, y124, z124⟩, st124⟩ := X122.specialBack hx (y := (⟨"com/example/treewright/treewright/schema/AugmentTarget$Step", "<init>", "(Ljava/lang/String;Ljava/lang/String;Ljava/lang/String;)V"⟩ : MethodName)) rfl hown (mvT hZ (hw _ (List.mem_of_getElem? (i := 53) rfl))) (mvT hZ (hw _ (List.mem_of_getElem? (i := 54) rfl))) (mvT hZ (hw _ (List.mem_of_getElem? (i := 55) rfl))) (by decide) (backOf (W := 2) (rm_sp l Z a0 hw [] b122 b104_0 b104_0 b104_0  h122 n0 f123_0 A122 F122_63 F122_65 F122_67 g_b122) hZ (hw _ (List.mem_of_getElem? (i := 55) rfl)) (hw _ (List.mem_of_getElem? (i := 52) rfl)) (by decide) (by decide)) (g := (mkF m 88 #[.val (.int p0), .val (.int p1), .val (.int p2), .val (.int (3 : Int32)), .val (.ref b104_0), .val (.ref b106), .unset, .unset] [(.ref b104_0), (.ref b104_0), (.ref b104_0), (.ref b122), (.ref b122), (.ref b106)])) rfl (by rw [hml]; rfl) (Steps.refl _) (a := b122) (argsL := [(.ref b104_0), (.ref b104_0), (.ref b104_0)]) (rest := [(.ref b122), (.ref b106)]) (lenOf pd0_6 rfl) rfl (by show 2 * 0 + _ ≤ _; exact Nat.le_of_eq rfl) (hb hby at_88) (fun _ _ => ⟨rfl, e122, (by decide : 7 + 0 ≤ _), (by decide : 27 + 0 ≤ _)⟩)
    dsimp only [Pt.U, Pt.locs, Pt.cells, Pt.slots] at X124 l124 y124 z124 st124 hQ124
    subst l124 y124 z124
    obtain ⟨rfl, N124q, K124, o124_0⟩ := hQ124
    have f125_0 := Nat.le_trans f123_0 K124.1
    have f125_1 := Sta_keep f123_1 K124 (allS (Exa_ns A122) all0)
    have f125_2 := Sta_keep f123_2 K124 (allS (Exa_ns A122) all0)
    have f125_3 := f123_3.keep K124 (ninS ne_de_b122 nin0)
    have f125_4 := f123_4.keep K124
    have f125_5 := f123_5.keep K124
    have f125_6 := f123_6.keep K124
    have f125_8 := f123_8.keep K124
    have f125_9 := f123_9.keep K124 (ninS ne_b106_b122 nin0)
    have f125_10 := f123_10.keep K124 (ninS ne_b106_b122 nin0)
    have f125_11 := f123_11.keep K124 (ninS ne_b106_b122 nin0)
    have f125_12 := f123_12.keep K124 (ninS ne_b114_0_b122 nin0)
    have f125_13 := A122.keep K124
    have N124 := Fr.app N120 N124q
    refine Wp.back (U' := (T124.setTop (mkF m 91 #[.val (.int p0), .val (.int p1), .val (.int p2), .val (.int (3 : Int32)), .val (.ref b104_0), .val (.ref b106), .unset, .unset] [(.ref b122), (.ref b106)]))) (fun t k => st124.trans k) ?_
    obtain ⟨cq126, kq126, q126a, q126b, q126c⟩ := isOf hZ rfl f125_5
    obtain ⟨_, _, ⟨T126, L126, k126, n126⟩, -, X126, ⟨Lc126, hQ126, l126, y126, z126⟩, st126⟩ := X124.virtualBack hx (y := (⟨"java/util/ArrayList", "add", "(Ljava/lang/Object;)Z"⟩ : MethodName)) (z := (⟨"java/util/ArrayList", "add", "(Ljava/lang/Object;)Z"⟩ : MethodName)) hown (mvT hZ (hw _ (List.mem_of_getElem? (i := 68) rfl))) (mvT hZ (hw _ (List.mem_of_getElem? (i := 69) rfl))) (notFace_of_selects (args := #[]) (mvT hZ (hw _ (List.mem_of_getElem? (i := 71) rfl)))) (mvT hZ (hw _ (List.mem_of_getElem? (i := 71) rfl))) (mvT hZ (hw _ (List.mem_of_getElem? (i := 70) rfl))) (by decide) (backOf (W := 0) (rm_ad2 l Z a0 hw [] b106 b122 b114_0 k114_0 b110 b116 T124.heap n0 f125_0 f125_5 o124_0 f125_10 f125_11 f125_12 o120_5 f125_9 g_b106 g_b114_0 (Ne.symm ne_b106_b122) (Ne.symm ne_b114_0_b122) ne_b106_b114_0) hZ (hw _ (List.mem_of_getElem? (i := 72) rfl)) (hw _ (List.mem_of_getElem? (i := 28) rfl)) (by decide) (by decide)) q126a q126c (g := (mkF m 91 #[.val (.int p0), .val (.int p1), .val (.int p2), .val (.int (3 : Int32)), .val (.ref b104_0), .val (.ref b106), .unset, .unset] [(.ref b122), (.ref b106)])) rfl (by rw [hml]; rfl) (Steps.refl _) (argsL := [(.ref b122)]) (rest := []) (lenOf pd0_7 rfl) rfl (by show 2 * 0 + _ ≤ _; exact Nat.le_of_eq rfl) (hb hby at_91) (fun _ _ => ⟨rfl, rfl, (by decide : 7 + 0 ≤ _), (by decide : 27 + 0 ≤ _)⟩)
    dsimp only [Pt.U, Pt.locs, Pt.cells, Pt.slots] at X126 l126 y126 z126 st126 hQ126
    subst l126 y126 z126
    obtain ⟨rfl, N126q, K126, o126_0, o126_1, o126_2, o126_3, o126_4, o126_5⟩ := hQ126
    have f127_0 := Nat.le_trans f125_0 K126.1
    have f127_1 := Sta_keep f125_1 K126 (allS (Exa_ns f125_5) (allS (Arv_ns f125_12) all0))
    have f127_2 := Sta_keep f125_2 K126 (allS (Exa_ns f125_5) (allS (Arv_ns f125_12) all0))
    have f127_3 := f125_3.keep K126 (ninS ne_de_b106 (ninS ne_de_b114_0 nin0))
    have f127_4 := f125_4.keep K126
    have f127_5 := f125_5.keep K126
    have f127_6 := f125_6.keep K126
    have f127_8 := f125_8.keep K126
    have f127_13 := o124_0.keep K126
    have N126 := Fr.app N124 N126q
    refine Wp.back (U' := (T126.setTop (mkF m 94 #[.val (.int p0), .val (.int p1), .val (.int p2), .val (.int (3 : Int32)), .val (.ref b104_0), .val (.ref b106), .unset, .unset] [(.int (1 : Int32))]))) (fun t k => st126.trans k) ?_
    refine Wp.back (U' := (T126.setTop (mkF m 95 #[.val (.int p0), .val (.int p1), .val (.int p2), .val (.int (3 : Int32)), .val (.ref b104_0), .val (.ref b106), .unset, .unset] []))) (fun t k => XS.pop X126.here hx rfl (hb hby at_94) rfl rfl k) ?_
    obtain ⟨T128, h128, X128, e128, E128, A128, D128, -, st128⟩ := newO X126 hx hZ hown (hw _ (List.mem_of_getElem? (i := 99) rfl)) (hw _ (List.mem_of_getElem? (i := 100) rfl)) (hw _ (List.mem_of_getElem? (i := 101) rfl)) rfl (g := (mkF m 95 #[.val (.int p0), .val (.int p1), .val (.int p2), .val (.int (3 : Int32)), .val (.ref b104_0), .val (.ref b106), .unset, .unset] [])) rfl (hb hby at_95) (by decide) (by decide)
    obtain ⟨b128, g128⟩ : ∃ z, z = T126.heap.size := ⟨_, rfl⟩
    rw [← g128] at A128 D128 st128
    have ne_de_b128 : de ≠ b128 := Nat.ne_of_lt (Nat.lt_of_lt_of_le f127_3.lt (Nat.le_of_eq g128.symm))
    have ne_b104_0_b128 : b104_0 ≠ b128 := Nat.ne_of_lt (Nat.lt_of_lt_of_le f127_4.lt (Nat.le_of_eq g128.symm))
    have ne_b106_b128 : b106 ≠ b128 := Nat.ne_of_lt (Nat.lt_of_lt_of_le o126_0.lt (Nat.le_of_eq g128.symm))
    have ne_b110_b128 : b110 ≠ b128 := Nat.ne_of_lt (Nat.lt_of_lt_of_le f127_6.lt (Nat.le_of_eq g128.symm))
    have ne_b114_0_b128 : b114_0 ≠ b128 := Nat.ne_of_lt (Nat.lt_of_lt_of_le o126_4.lt (Nat.le_of_eq g128.symm))
    have ne_b116_b128 : b116 ≠ b128 := Nat.ne_of_lt (Nat.lt_of_lt_of_le f127_8.lt (Nat.le_of_eq g128.symm))
    have ne_b122_b128 : b122 ≠ b128 := Nat.ne_of_lt (Nat.lt_of_lt_of_le f127_13.lt (Nat.le_of_eq g128.symm))
    have g_b128 : n0 ≤ b128 := Nat.le_trans f127_0 (Nat.le_of_eq g128.symm)
    have f129_0 := Nat.le_trans f127_0 E128.1
    have f129_1 := f127_1.ext E128
    have f129_2 := f127_2.ext E128
    have f129_3 := f127_3.ext E128
    have f129_4 := f127_4.ext E128
    have f129_5 := o126_0.ext E128
    have f129_6 := f127_6.ext E128
    have f129_8 := f127_8.ext E128
    have f129_9 := f127_13.ext E128
    have f129_10 := o126_1.ext E128
    have f129_11 := o126_2.ext E128
    have f129_12 := o126_3.ext E128
    have f129_13 := o126_4.ext E128
    have F128_107 : Fld Z h128 b128 "com/example/treewright/treewright/schema/AugmentTarget$Path" "steps" "Ljava/util/List;" .null := D128 (Or.inr (hw _ (List.mem_of_getElem? (i := 107) rfl))) (ty := (.object "java/util/List")) (by decide)
    have F128_109 : Fld Z h128 b128 "com/example/treewright/treewright/schema/AugmentTarget$Path" "ownFrom" "I" (.int (0 : Int32)) := D128 (Or.inr (hw _ (List.mem_of_getElem? (i := 109) rfl))) (ty := .int) (by decide)
    refine Wp.back (U' := (T128.setTop (mkF m 98 #[.val (.int p0), .val (.int p1), .val (.int p2), .val (.int (3 : Int32)), .val (.ref b104_0), .val (.ref b106), .unset, .unset] [(.ref b128)]))) st128 ?_
    refine Wp.back (U' := (T128.setTop (mkF m 102 #[.val (.int p0), .val (.int p1), .val (.int p2), .val (.int (3 : Int32)), .val (.ref b104_0), .val (.ref b106), .unset, .unset] [(.int p0), (.ref b106), (.ref b128), (.ref b128)]))) (fun t k => XS.dup X128.here hx rfl (hb hby at_98) rfl rfl (XS.aload X128.here hx rfl (hb hby at_99) rfl rfl (XS.iloadN X128.here hx rfl (hb hby at_101) rfl k))) ?_
    obtain ⟨_, _, ⟨T130, L130, k130, n130⟩, -, X130, ⟨Lc130, hQ130, l130, y130, z130⟩, st130⟩ := X128.specialBack hx (y := (⟨"com/example/treewright/treewright/schema/AugmentTarget$Path", "<init>", "(Ljava/util/List;I)V"⟩ : MethodName)) rfl hown (mvT hZ (hw _ (List.mem_of_getElem? (i := 102) rfl))) (mvT hZ (hw _ (List.mem_of_getElem? (i := 103) rfl))) (mvT hZ (hw _ (List.mem_of_getElem? (i := 104) rfl))) (by decide) (backOf (W := 1) (rm_pt l Z a0 hw [] b128 b106 p0  h128 n0 f129_0 A128 F128_107 F128_109 g_b128) hZ (hw _ (List.mem_of_getElem? (i := 104) rfl)) (hw _ (List.mem_of_getElem? (i := 101) rfl)) (by decide) (by decide)) (g := (mkF m 102 #[.val (.int p0), .val (.int p1), .val (.int p2), .val (.int (3 : Int32)), .val (.ref b104_0), .val (.ref b106), .unset, .unset] [(.int p0), (.ref b106), (.ref b128), (.ref b128)])) rfl (by rw [hml]; rfl) (Steps.refl _) (a := b128) (argsL := [(.ref b106), (.int p0)]) (rest := [(.ref b128)]) (lenOf pd0_2 rfl) rfl (by show 2 * 0 + _ ≤ _; exact Nat.le_of_eq rfl) (hb hby at_102) (fun _ _ => ⟨rfl, e128, (by decide : 8 + 0 ≤ _), (by decide : 29 + 0 ≤ _)⟩)
    dsimp only [Pt.U, Pt.locs, Pt.cells, Pt.slots] at X130 l130 y130 z130 st130 hQ130
    subst l130 y130 z130
    obtain ⟨rfl, N130q, K130, o130_0, o130_1, o130_2⟩ := hQ130
    have f131_0 := Nat.le_trans f129_0 K130.1
    have f131_1 := Sta_keep f129_1 K130 (allS (Exa_ns A128) all0)
    have f131_2 := Sta_keep f129_2 K130 (allS (Exa_ns A128) all0)
    have f131_3 := f129_3.keep K130 (ninS ne_de_b128 nin0)
    have f131_4 := f129_4.keep K130
    have f131_5 := f129_5.keep K130
    have f131_6 := f129_6.keep K130
    have f131_8 := f129_8.keep K130
    have f131_9 := f129_9.keep K130
    have f131_10 := f129_10.keep K130 (ninS ne_b106_b128 nin0)
    have f131_11 := f129_11.keep K130 (ninS ne_b106_b128 nin0)
    have f131_12 := f129_12.keep K130 (ninS ne_b106_b128 nin0)
    have f131_13 := f129_13.keep K130 (ninS ne_b114_0_b128 nin0)
    have f131_14 := A128.keep K130
    have N130 := Fr.app N126 N130q
    refine Wp.back (U' := (T130.setTop (mkF m 105 #[.val (.int p0), .val (.int p1), .val (.int p2), .val (.int (3 : Int32)), .val (.ref b104_0), .val (.ref b106), .unset, .unset] [(.ref b128)]))) (fun t k => st130.trans k) ?_
    refine Wp.back (U' := (T130.setTop (mkF m 108 #[.val (.int p0), .val (.int p1), .val (.int p2), .val (.int (3 : Int32)), .val (.ref b104_0), .val (.ref b106), .val (.ref b128), .unset] [(.int p0)]))) (fun t k => XS.astore X130.here hx rfl (hb hby at_105) rfl rfl (l' := #[.val (.int p0), .val (.int p1), .val (.int p2), .val (.int (3 : Int32)), .val (.ref b104_0), .val (.ref b106), .val (.ref b128), .unset]) rfl (XS.iloadN X130.here hx rfl (hb hby at_107) rfl k)) ?_
    by_cases c108_132 : p0 = (0 : Int32)
    · refine Wp.back (U' := (T130.setTop (mkF m 120 #[.val (.int p0), .val (.int p1), .val (.int p2), .val (.int (3 : Int32)), .val (.ref b104_0), .val (.ref b106), .val (.ref b128), .val (.int (1 : Int32))] [(.ref b128)]))) (fun t k => XS.ifNo X130.here hx rfl (hb hby at_108) rfl ((if0 _ _).trans (teq c108_132).2) (XT.iconstV X130.here hx rfl (1 : Int32) (hb hby at_111) (by decide) (XS.goto X130.here hx rfl (pc0 := 112) (pc' := 116) rfl (hb hby at_112) (by decide) (by decide) (XS.istore X130.here hx rfl (hb hby at_116) rfl (l' := #[.val (.int p0), .val (.int p1), .val (.int p2), .val (.int (3 : Int32)), .val (.ref b104_0), .val (.ref b106), .val (.ref b128), .val (.int (1 : Int32))]) rfl (XS.aload X130.here hx rfl (hb hby at_118) rfl rfl k))))) ?_
      obtain ⟨cq133, kq133, q133a, q133b, q133c⟩ := isOf hZ rfl o130_0
      obtain ⟨_, _, ⟨T133, L133, k133, n133⟩, -, X133, ⟨Lc133, hQ133, l133, y133, z133⟩, st133⟩ := X130.virtualBack hx (y := (⟨"com/example/treewright/treewright/schema/AugmentTarget$Path", "startsOwn", "()Z"⟩ : MethodName)) (z := (⟨"com/example/treewright/treewright/schema/AugmentTarget$Path", "startsOwn", "()Z"⟩ : MethodName)) hown (mvT hZ (hw _ (List.mem_of_getElem? (i := 110) rfl))) (mvT hZ (hw _ (List.mem_of_getElem? (i := 111) rfl))) (notFace_of_selects (args := #[]) (mvT hZ (hw _ (List.mem_of_getElem? (i := 113) rfl)))) (mvT hZ (hw _ (List.mem_of_getElem? (i := 113) rfl))) (mvT hZ (hw _ (List.mem_of_getElem? (i := 112) rfl))) (by decide) (backOf (W := 0) (rm_so1 l Z a0 hw [] b128 p0 T130.heap n0 f131_0 o130_2 c108_132) hZ (hw _ (List.mem_of_getElem? (i := 114) rfl)) (hw _ (List.mem_of_getElem? (i := 101) rfl)) (by decide) (by decide)) q133a q133c (g := (mkF m 120 #[.val (.int p0), .val (.int p1), .val (.int p2), .val (.int (3 : Int32)), .val (.ref b104_0), .val (.ref b106), .val (.ref b128), .val (.int (1 : Int32))] [(.ref b128)])) rfl (by rw [hml]; rfl) (Steps.refl _) (argsL := []) (rest := []) (lenOf pd0_3 rfl) rfl (by show 2 * 0 + _ ≤ _; exact Nat.le_of_eq rfl) (hb hby at_120) (fun _ _ => ⟨rfl, rfl, (by decide : 8 + 0 ≤ _), (by decide : 29 + 0 ≤ _)⟩)
      dsimp only [Pt.U, Pt.locs, Pt.cells, Pt.slots] at X133 l133 y133 z133 st133 hQ133
      subst l133 y133 z133
      obtain ⟨rfl, N133q, K133⟩ := hQ133
      have f134_0 := Nat.le_trans f131_0 K133.1
      have f134_1 := Sta_keep0 f131_1 K133
      have f134_2 := Sta_keep0 f131_2 K133
      have f134_3 := f131_3.keep K133 nin0
      have f134_4 := f131_4.keep K133
      have f134_5 := f131_5.keep K133
      have f134_6 := f131_6.keep K133
      have f134_8 := f131_8.keep K133
      have f134_9 := f131_9.keep K133
      have f134_10 := f131_10.keep K133 nin0
      have f134_11 := f131_11.keep K133 nin0
      have f134_12 := f131_12.keep K133 nin0
      have f134_13 := f131_13.keep K133 nin0
      have f134_14 := o130_0.keep K133
      have f134_15 := o130_1.keep K133 nin0
      have f134_16 := o130_2.keep K133 nin0
      have N133 := Fr.app N130 N133q
      refine Wp.back (U' := (T133.setTop (mkF m 123 #[.val (.int p0), .val (.int p1), .val (.int p2), .val (.int (3 : Int32)), .val (.ref b104_0), .val (.ref b106), .val (.ref b128), .val (.int (1 : Int32))] [(.int (1 : Int32))]))) (fun t k => st133.trans k) ?_
      refine Wp.back (U' := (T133.setTop (mkF m 130 #[.val (.int p0), .val (.int p1), .val (.int p2), .val (.int (3 : Int32)), .val (.ref b104_0), .val (.ref b106), .val (.ref b128), .val (.int (1 : Int32))] [(.ref b128)]))) (fun t k => XS.iload X133.here hx rfl (hb hby at_123) rfl (XS.icmpNo X133.here hx rfl (hb hby at_125) rfl (teq (by decide)).2 (XS.aload X133.here hx rfl (hb hby at_128) rfl rfl k))) ?_
      obtain ⟨cq135, kq135, q135a, q135b, q135c⟩ := isOf hZ rfl f134_14
      obtain ⟨_, _, ⟨T135, L135, k135, n135⟩, -, X135, ⟨Lc135, hQ135, l135, y135, z135⟩, st135⟩ := X133.virtualBack hx (y := (⟨"com/example/treewright/treewright/schema/AugmentTarget$Path", "ownFrom", "()I"⟩ : MethodName)) (z := (⟨"com/example/treewright/treewright/schema/AugmentTarget$Path", "ownFrom", "()I"⟩ : MethodName)) hown (mvT hZ (hw _ (List.mem_of_getElem? (i := 115) rfl))) (mvT hZ (hw _ (List.mem_of_getElem? (i := 116) rfl))) (notFace_of_selects (args := #[]) (mvT hZ (hw _ (List.mem_of_getElem? (i := 118) rfl)))) (mvT hZ (hw _ (List.mem_of_getElem? (i := 118) rfl))) (mvT hZ (hw _ (List.mem_of_getElem? (i := 117) rfl))) (by decide) (backOf (W := 0) (rm_of l Z a0 hw [] b128 p0 T133.heap n0 f134_0 f134_16) hZ (hw _ (List.mem_of_getElem? (i := 119) rfl)) (hw _ (List.mem_of_getElem? (i := 101) rfl)) (by decide) (by decide)) q135a q135c (g := (mkF m 130 #[.val (.int p0), .val (.int p1), .val (.int p2), .val (.int (3 : Int32)), .val (.ref b104_0), .val (.ref b106), .val (.ref b128), .val (.int (1 : Int32))] [(.ref b128)])) rfl (by rw [hml]; rfl) (Steps.refl _) (argsL := []) (rest := []) (lenOf pd0_4 rfl) rfl (by show 2 * 0 + _ ≤ _; exact Nat.le_of_eq rfl) (hb hby at_130) (fun _ _ => ⟨rfl, rfl, (by decide : 8 + 0 ≤ _), (by decide : 29 + 0 ≤ _)⟩)
      dsimp only [Pt.U, Pt.locs, Pt.cells, Pt.slots] at X135 l135 y135 z135 st135 hQ135
      subst l135 y135 z135
      obtain ⟨rfl, N135q, K135⟩ := hQ135
      have f136_0 := Nat.le_trans f134_0 K135.1
      have f136_1 := Sta_keep0 f134_1 K135
      have f136_2 := Sta_keep0 f134_2 K135
      have f136_3 := f134_3.keep K135 nin0
      have f136_4 := f134_4.keep K135
      have f136_5 := f134_5.keep K135
      have f136_6 := f134_6.keep K135
      have f136_8 := f134_8.keep K135
      have f136_9 := f134_9.keep K135
      have f136_10 := f134_10.keep K135 nin0
      have f136_11 := f134_11.keep K135 nin0
      have f136_12 := f134_12.keep K135 nin0
      have f136_13 := f134_13.keep K135 nin0
      have f136_14 := f134_14.keep K135
      have f136_15 := f134_15.keep K135 nin0
      have f136_16 := f134_16.keep K135 nin0
      have N135 := Fr.app N133 N135q
      refine Wp.back (U' := (T135.setTop (mkF m 133 #[.val (.int p0), .val (.int p1), .val (.int p2), .val (.int (3 : Int32)), .val (.ref b104_0), .val (.ref b106), .val (.ref b128), .val (.int (1 : Int32))] [(.int p0)]))) (fun t k => st135.trans k) ?_
      refine Wp.back (U' := (T135.setTop (mkF m 139 #[.val (.int p0), .val (.int p1), .val (.int p2), .val (.int (3 : Int32)), .val (.ref b104_0), .val (.ref b106), .val (.ref b128), .val (.int (1 : Int32))] [(.ref b128)]))) (fun t k => XS.iloadN X135.here hx rfl (hb hby at_133) rfl (XS.icmpNo X135.here hx rfl (hb hby at_134) rfl (teq (rfl : p0 = p0)).2 (XS.aload X135.here hx rfl (hb hby at_137) rfl rfl k))) ?_
      obtain ⟨cq137, kq137, q137a, q137b, q137c⟩ := isOf hZ rfl f136_14
      obtain ⟨_, _, ⟨T137, L137, k137, n137⟩, -, X137, ⟨Lc137, hQ137, l137, y137, z137⟩, st137⟩ := X135.virtualBack hx (y := (⟨"com/example/treewright/treewright/schema/AugmentTarget$Path", "steps", "()Ljava/util/List;"⟩ : MethodName)) (z := (⟨"com/example/treewright/treewright/schema/AugmentTarget$Path", "steps", "()Ljava/util/List;"⟩ : MethodName)) hown (mvT hZ (hw _ (List.mem_of_getElem? (i := 120) rfl))) (mvT hZ (hw _ (List.mem_of_getElem? (i := 121) rfl))) (notFace_of_selects (args := #[]) (mvT hZ (hw _ (List.mem_of_getElem? (i := 123) rfl)))) (mvT hZ (hw _ (List.mem_of_getElem? (i := 123) rfl))) (mvT hZ (hw _ (List.mem_of_getElem? (i := 122) rfl))) (by decide) (backOf (W := 0) (rm_ss l Z a0 hw [] b128 b106 T135.heap n0 f136_0 f136_15) hZ (hw _ (List.mem_of_getElem? (i := 124) rfl)) (hw _ (List.mem_of_getElem? (i := 101) rfl)) (by decide) (by decide)) q137a q137c (g := (mkF m 139 #[.val (.int p0), .val (.int p1), .val (.int p2), .val (.int (3 : Int32)), .val (.ref b104_0), .val (.ref b106), .val (.ref b128), .val (.int (1 : Int32))] [(.ref b128)])) rfl (by rw [hml]; rfl) (Steps.refl _) (argsL := []) (rest := []) (lenOf pd0_5 rfl) rfl (by show 2 * 0 + _ ≤ _; exact Nat.le_of_eq rfl) (hb hby at_139) (fun _ _ => ⟨rfl, rfl, (by decide : 8 + 0 ≤ _), (by decide : 29 + 0 ≤ _)⟩)
      dsimp only [Pt.U, Pt.locs, Pt.cells, Pt.slots] at X137 l137 y137 z137 st137 hQ137
      subst l137 y137 z137
      obtain ⟨rfl, N137q, K137⟩ := hQ137
      have f138_0 := Nat.le_trans f136_0 K137.1
      have f138_1 := Sta_keep0 f136_1 K137
      have f138_2 := Sta_keep0 f136_2 K137
      have f138_3 := f136_3.keep K137 nin0
      have f138_4 := f136_4.keep K137
      have f138_5 := f136_5.keep K137
      have f138_6 := f136_6.keep K137
      have f138_8 := f136_8.keep K137
      have f138_9 := f136_9.keep K137
      have f138_10 := f136_10.keep K137 nin0
      have f138_11 := f136_11.keep K137 nin0
      have f138_12 := f136_12.keep K137 nin0
      have f138_13 := f136_13.keep K137 nin0
      have f138_14 := f136_14.keep K137
      have f138_15 := f136_15.keep K137 nin0
      have f138_16 := f136_16.keep K137 nin0
      have N137 := Fr.app N135 N137q
      refine Wp.back (U' := (T137.setTop (mkF m 142 #[.val (.int p0), .val (.int p1), .val (.int p2), .val (.int (3 : Int32)), .val (.ref b104_0), .val (.ref b106), .val (.ref b128), .val (.int (1 : Int32))] [(.ref b106)]))) (fun t k => st137.trans k) ?_
      obtain ⟨cq139, kq139, q139a, q139b, q139c⟩ := isOf hZ rfl f138_5
      obtain ⟨_, _, ⟨T139, L139, k139, n139⟩, -, X139, ⟨Lc139, hQ139, l139, y139, z139⟩, st139⟩ := X137.interfaceBack hx (xi := (⟨"java/util/List", "size", "()I"⟩ : MethodName)) (y := (⟨"java/util/ArrayList", "size", "()I"⟩ : MethodName)) hown (mvT hZ (hw _ (List.mem_of_getElem? (i := 125) rfl))) (mvT hZ (hw _ (List.mem_of_getElem? (i := 126) rfl))) (mvT hZ (hw _ (List.mem_of_getElem? (i := 127) rfl))) (mvT hZ (hw _ (List.mem_of_getElem? (i := 128) rfl))) (mvT hZ (hw _ (List.mem_of_getElem? (i := 129) rfl))) (mvT hZ (hw _ (List.mem_of_getElem? (i := 130) rfl))) (mvT hZ (hw _ (List.mem_of_getElem? (i := 131) rfl))) (mvT hZ (hw _ (List.mem_of_getElem? (i := 132) rfl))) (by decide) (backOf (W := 0) (rm_sz3 l Z a0 hw [] b106  T137.heap n0 f138_0 f138_12) hZ (hw _ (List.mem_of_getElem? (i := 133) rfl)) (hw _ (List.mem_of_getElem? (i := 28) rfl)) (by decide) (by decide)) q139a q139b q139c (g := (mkF m 142 #[.val (.int p0), .val (.int p1), .val (.int p2), .val (.int (3 : Int32)), .val (.ref b104_0), .val (.ref b106), .val (.ref b128), .val (.int (1 : Int32))] [(.ref b106)])) rfl (by rw [hml]; rfl) (Steps.refl _) (argsL := []) (rest := []) (lenOf pd0_4 rfl) rfl (by show 2 * 0 + _ ≤ _; exact Nat.le_of_eq rfl) (hb hby at_142) (fun _ _ => ⟨rfl, rfl, (by decide : 8 + 0 ≤ _), (by decide : 29 + 0 ≤ _)⟩)
      dsimp only [Pt.U, Pt.locs, Pt.cells, Pt.slots] at X139 l139 y139 z139 st139 hQ139
      subst l139 y139 z139
      obtain ⟨rfl, N139q, K139⟩ := hQ139
      have f140_0 := Nat.le_trans f138_0 K139.1
      have f140_1 := Sta_keep0 f138_1 K139
      have f140_2 := Sta_keep0 f138_2 K139
      have f140_3 := f138_3.keep K139 nin0
      have f140_4 := f138_4.keep K139
      have f140_5 := f138_5.keep K139
      have f140_6 := f138_6.keep K139
      have f140_8 := f138_8.keep K139
      have f140_9 := f138_9.keep K139
      have f140_10 := f138_10.keep K139 nin0
      have f140_11 := f138_11.keep K139 nin0
      have f140_12 := f138_12.keep K139 nin0
      have f140_13 := f138_13.keep K139 nin0
      have f140_14 := f138_14.keep K139
      have f140_15 := f138_15.keep K139 nin0
      have f140_16 := f138_16.keep K139 nin0
      have N139 := Fr.app N137 N139q
      refine Wp.back (U' := (T139.setTop (mkF m 147 #[.val (.int p0), .val (.int p1), .val (.int p2), .val (.int (3 : Int32)), .val (.ref b104_0), .val (.ref b106), .val (.ref b128), .val (.int (1 : Int32))] [(.int (3 : Int32))]))) (fun t k => st139.trans k) ?_
      refine Wp.back (U' := (T139.setTop (mkF m 156 #[.val (.int p0), .val (.int p1), .val (.int p2), .val (.int (3 : Int32)), .val (.ref b104_0), .val (.ref b106), .val (.ref b128), .val (.int (1 : Int32))] [(.int (1 : Int32))]))) (fun t k => XS.iloadN X139.here hx rfl (hb hby at_147) rfl (XS.icmpNo X139.here hx rfl (hb hby at_148) rfl (teq (by decide)).2 (XT.iconstV X139.here hx rfl (1 : Int32) (hb hby at_151) (by decide) (XS.goto X139.here hx rfl (pc0 := 152) (pc' := 156) rfl (hb hby at_152) (by decide) (by decide) k)))) ?_
      obtain ⟨fs, hr, hrun, hended, hW, hsame⟩ := X139.leave (v := (some (.int (1 : Int32)))) (fun h => by rw [hret] at h; cases h)
      refine Wp.done (retN X139 hx (t := .boolean) hret (by simp) (hb hby at_156) hr) hrun hended ⟨_, _, rfl, ?_, ⟨_, rfl⟩, hW, hsame.mono (by decide) (by decide)⟩
      show QL n0 _ T139.heap _
      exact ⟨rfl, N139⟩
    · refine Wp.back (U' := (T130.setTop (mkF m 120 #[.val (.int p0), .val (.int p1), .val (.int p2), .val (.int (3 : Int32)), .val (.ref b104_0), .val (.ref b106), .val (.ref b128), .val (.int (0 : Int32))] [(.ref b128)]))) (fun t k => XS.ifYes X130.here hx rfl (pc0 := 108) (pc' := 115) rfl (hb hby at_108) rfl ((if0 _ _).trans (feq c108_132).2) (by decide) (by decide) (XT.iconstV X130.here hx rfl (0 : Int32) (hb hby at_115) (by decide) (XS.istore X130.here hx rfl (hb hby at_116) rfl (l' := #[.val (.int p0), .val (.int p1), .val (.int p2), .val (.int (3 : Int32)), .val (.ref b104_0), .val (.ref b106), .val (.ref b128), .val (.int (0 : Int32))]) rfl (XS.aload X130.here hx rfl (hb hby at_118) rfl rfl k)))) ?_
      obtain ⟨cq141, kq141, q141a, q141b, q141c⟩ := isOf hZ rfl o130_0
      obtain ⟨_, _, ⟨T141, L141, k141, n141⟩, -, X141, ⟨Lc141, hQ141, l141, y141, z141⟩, st141⟩ := X130.virtualBack hx (y := (⟨"com/example/treewright/treewright/schema/AugmentTarget$Path", "startsOwn", "()Z"⟩ : MethodName)) (z := (⟨"com/example/treewright/treewright/schema/AugmentTarget$Path", "startsOwn", "()Z"⟩ : MethodName)) hown (mvT hZ (hw _ (List.mem_of_getElem? (i := 110) rfl))) (mvT hZ (hw _ (List.mem_of_getElem? (i := 111) rfl))) (notFace_of_selects (args := #[]) (mvT hZ (hw _ (List.mem_of_getElem? (i := 113) rfl)))) (mvT hZ (hw _ (List.mem_of_getElem? (i := 113) rfl))) (mvT hZ (hw _ (List.mem_of_getElem? (i := 112) rfl))) (by decide) (backOf (W := 0) (rm_so0 l Z a0 hw [] b128 p0 T130.heap n0 f131_0 o130_2 c108_132) hZ (hw _ (List.mem_of_getElem? (i := 114) rfl)) (hw _ (List.mem_of_getElem? (i := 101) rfl)) (by decide) (by decide)) q141a q141c (g := (mkF m 120 #[.val (.int p0), .val (.int p1), .val (.int p2), .val (.int (3 : Int32)), .val (.ref b104_0), .val (.ref b106), .val (.ref b128), .val (.int (0 : Int32))] [(.ref b128)])) rfl (by rw [hml]; rfl) (Steps.refl _) (argsL := []) (rest := []) (lenOf pd0_3 rfl) rfl (by show 2 * 0 + _ ≤ _; exact Nat.le_of_eq rfl) (hb hby at_120) (fun _ _ => ⟨rfl, rfl, (by decide : 8 + 0 ≤ _), (by decide : 29 + 0 ≤ _)⟩)
      dsimp only [Pt.U, Pt.locs, Pt.cells, Pt.slots] at X141 l141 y141 z141 st141 hQ141
      subst l141 y141 z141
      obtain ⟨rfl, N141q, K141⟩ := hQ141
      have f142_0 := Nat.le_trans f131_0 K141.1
      have f142_1 := Sta_keep0 f131_1 K141
      have f142_2 := Sta_keep0 f131_2 K141
      have f142_3 := f131_3.keep K141 nin0
      have f142_4 := f131_4.keep K141
      have f142_5 := f131_5.keep K141
      have f142_6 := f131_6.keep K141
      have f142_8 := f131_8.keep K141
      have f142_9 := f131_9.keep K141
      have f142_10 := f131_10.keep K141 nin0
      have f142_11 := f131_11.keep K141 nin0
      have f142_12 := f131_12.keep K141 nin0
      have f142_13 := f131_13.keep K141 nin0
      have f142_14 := o130_0.keep K141
      have f142_15 := o130_1.keep K141 nin0
      have f142_16 := o130_2.keep K141 nin0
      have N141 := Fr.app N130 N141q
      refine Wp.back (U' := (T141.setTop (mkF m 123 #[.val (.int p0), .val (.int p1), .val (.int p2), .val (.int (3 : Int32)), .val (.ref b104_0), .val (.ref b106), .val (.ref b128), .val (.int (0 : Int32))] [(.int (0 : Int32))]))) (fun t k => st141.trans k) ?_
      refine Wp.back (U' := (T141.setTop (mkF m 130 #[.val (.int p0), .val (.int p1), .val (.int p2), .val (.int (3 : Int32)), .val (.ref b104_0), .val (.ref b106), .val (.ref b128), .val (.int (0 : Int32))] [(.ref b128)]))) (fun t k => XS.iload X141.here hx rfl (hb hby at_123) rfl (XS.icmpNo X141.here hx rfl (hb hby at_125) rfl (teq (by decide)).2 (XS.aload X141.here hx rfl (hb hby at_128) rfl rfl k))) ?_
      obtain ⟨cq143, kq143, q143a, q143b, q143c⟩ := isOf hZ rfl f142_14
      obtain ⟨_, _, ⟨T143, L143, k143, n143⟩, -, X143, ⟨Lc143, hQ143, l143, y143, z143⟩, st143⟩ := X141.virtualBack hx (y := (⟨"com/example/treewright/treewright/schema/AugmentTarget$Path", "ownFrom", "()I"⟩ : MethodName)) (z := (⟨"com/example/treewright/treewright/schema/AugmentTarget$Path", "ownFrom", "()I"⟩ : MethodName)) hown (mvT hZ (hw _ (List.mem_of_getElem? (i := 115) rfl))) (mvT hZ (hw _ (List.mem_of_getElem? (i := 116) rfl))) (notFace_of_selects (args := #[]) (mvT hZ (hw _ (List.mem_of_getElem? (i := 118) rfl)))) (mvT hZ (hw _ (List.mem_of_getElem? (i := 118) rfl))) (mvT hZ (hw _ (List.mem_of_getElem? (i := 117) rfl))) (by decide) (backOf (W := 0) (rm_of l Z a0 hw [] b128 p0 T141.heap n0 f142_0 f142_16) hZ (hw _ (List.mem_of_getElem? (i := 119) rfl)) (hw _ (List.mem_of_getElem? (i := 101) rfl)) (by decide) (by decide)) q143a q143c (g := (mkF m 130 #[.val (.int p0), .val (.int p1), .val (.int p2), .val (.int (3 : Int32)), .val (.ref b104_0), .val (.ref b106), .val (.ref b128), .val (.int (0 : Int32))] [(.ref b128)])) rfl (by rw [hml]; rfl) (Steps.refl _) (argsL := []) (rest := []) (lenOf pd0_4 rfl) rfl (by show 2 * 0 + _ ≤ _; exact Nat.le_of_eq rfl) (hb hby at_130) (fun _ _ => ⟨rfl, rfl, (by decide : 8 + 0 ≤ _), (by decide : 29 + 0 ≤ _)⟩)
      dsimp only [Pt.U, Pt.locs, Pt.cells, Pt.slots] at X143 l143 y143 z143 st143 hQ143
      subst l143 y143 z143
      obtain ⟨rfl, N143q, K143⟩ := hQ143
      have f144_0 := Nat.le_trans f142_0 K143.1
      have f144_1 := Sta_keep0 f142_1 K143
      have f144_2 := Sta_keep0 f142_2 K143
      have f144_3 := f142_3.keep K143 nin0
      have f144_4 := f142_4.keep K143
      have f144_5 := f142_5.keep K143
      have f144_6 := f142_6.keep K143
      have f144_8 := f142_8.keep K143
      have f144_9 := f142_9.keep K143
      have f144_10 := f142_10.keep K143 nin0
      have f144_11 := f142_11.keep K143 nin0
      have f144_12 := f142_12.keep K143 nin0
      have f144_13 := f142_13.keep K143 nin0
      have f144_14 := f142_14.keep K143
      have f144_15 := f142_15.keep K143 nin0
      have f144_16 := f142_16.keep K143 nin0
      have N143 := Fr.app N141 N143q
      refine Wp.back (U' := (T143.setTop (mkF m 133 #[.val (.int p0), .val (.int p1), .val (.int p2), .val (.int (3 : Int32)), .val (.ref b104_0), .val (.ref b106), .val (.ref b128), .val (.int (0 : Int32))] [(.int p0)]))) (fun t k => st143.trans k) ?_
      refine Wp.back (U' := (T143.setTop (mkF m 139 #[.val (.int p0), .val (.int p1), .val (.int p2), .val (.int (3 : Int32)), .val (.ref b104_0), .val (.ref b106), .val (.ref b128), .val (.int (0 : Int32))] [(.ref b128)]))) (fun t k => XS.iloadN X143.here hx rfl (hb hby at_133) rfl (XS.icmpNo X143.here hx rfl (hb hby at_134) rfl (teq (rfl : p0 = p0)).2 (XS.aload X143.here hx rfl (hb hby at_137) rfl rfl k))) ?_
      obtain ⟨cq145, kq145, q145a, q145b, q145c⟩ := isOf hZ rfl f144_14
      obtain ⟨_, _, ⟨T145, L145, k145, n145⟩, -, X145, ⟨Lc145, hQ145, l145, y145, z145⟩, st145⟩ := X143.virtualBack hx (y := (⟨"com/example/treewright/treewright/schema/AugmentTarget$Path", "steps", "()Ljava/util/List;"⟩ : MethodName)) (z := (⟨"com/example/treewright/treewright/schema/AugmentTarget$Path", "steps", "()Ljava/util/List;"⟩ : MethodName)) hown (mvT hZ (hw _ (List.mem_of_getElem? (i := 120) rfl))) (mvT hZ (hw _ (List.mem_of_getElem? (i := 121) rfl))) (notFace_of_selects (args := #[]) (mvT hZ (hw _ (List.mem_of_getElem? (i := 123) rfl)))) (mvT hZ (hw _ (List.mem_of_getElem? (i := 123) rfl))) (mvT hZ (hw _ (List.mem_of_getElem? (i := 122) rfl))) (by decide) (backOf (W := 0) (rm_ss l Z a0 hw [] b128 b106 T143.heap n0 f144_0 f144_15) hZ (hw _ (List.mem_of_getElem? (i := 124) rfl)) (hw _ (List.mem_of_getElem? (i := 101) rfl)) (by decide) (by decide)) q145a q145c (g := (mkF m 139 #[.val (.int p0), .val (.int p1), .val (.int p2), .val (.int (3 : Int32)), .val (.ref b104_0), .val (.ref b106), .val (.ref b128), .val (.int (0 : Int32))] [(.ref b128)])) rfl (by rw [hml]; rfl) (Steps.refl _) (argsL := []) (rest := []) (lenOf pd0_5 rfl) rfl (by show 2 * 0 + _ ≤ _; exact Nat.le_of_eq rfl) (hb hby at_139) (fun _ _ => ⟨rfl, rfl, (by decide : 8 + 0 ≤ _), (by decide : 29 + 0 ≤ _)⟩)
      dsimp only [Pt.U, Pt.locs, Pt.cells, Pt.slots] at X145 l145 y145 z145 st145 hQ145
      subst l145 y145 z145
      obtain ⟨rfl, N145q, K145⟩ := hQ145
      have f146_0 := Nat.le_trans f144_0 K145.1
      have f146_1 := Sta_keep0 f144_1 K145
      have f146_2 := Sta_keep0 f144_2 K145
      have f146_3 := f144_3.keep K145 nin0
      have f146_4 := f144_4.keep K145
      have f146_5 := f144_5.keep K145
      have f146_6 := f144_6.keep K145
      have f146_8 := f144_8.keep K145
      have f146_9 := f144_9.keep K145
      have f146_10 := f144_10.keep K145 nin0
      have f146_11 := f144_11.keep K145 nin0
      have f146_12 := f144_12.keep K145 nin0
      have f146_13 := f144_13.keep K145 nin0
      have f146_14 := f144_14.keep K145
      have f146_15 := f144_15.keep K145 nin0
      have f146_16 := f144_16.keep K145 nin0
      have N145 := Fr.app N143 N145q
      refine Wp.back (U' := (T145.setTop (mkF m 142 #[.val (.int p0), .val (.int p1), .val (.int p2), .val (.int (3 : Int32)), .val (.ref b104_0), .val (.ref b106), .val (.ref b128), .val (.int (0 : Int32))] [(.ref b106)]))) (fun t k => st145.trans k) ?_
      obtain ⟨cq147, kq147, q147a, q147b, q147c⟩ := isOf hZ rfl f146_5
      obtain ⟨_, _, ⟨T147, L147, k147, n147⟩, -, X147, ⟨Lc147, hQ147, l147, y147, z147⟩, st147⟩ := X145.interfaceBack hx (xi := (⟨"java/util/List", "size", "()I"⟩ : MethodName)) (y := (⟨"java/util/ArrayList", "size", "()I"⟩ : MethodName)) hown (mvT hZ (hw _ (List.mem_of_getElem? (i := 125) rfl))) (mvT hZ (hw _ (List.mem_of_getElem? (i := 126) rfl))) (mvT hZ (hw _ (List.mem_of_getElem? (i := 127) rfl))) (mvT hZ (hw _ (List.mem_of_getElem? (i := 128) rfl))) (mvT hZ (hw _ (List.mem_of_getElem? (i := 129) rfl))) (mvT hZ (hw _ (List.mem_of_getElem? (i := 130) rfl))) (mvT hZ (hw _ (List.mem_of_getElem? (i := 131) rfl))) (mvT hZ (hw _ (List.mem_of_getElem? (i := 132) rfl))) (by decide) (backOf (W := 0) (rm_sz3 l Z a0 hw [] b106  T145.heap n0 f146_0 f146_12) hZ (hw _ (List.mem_of_getElem? (i := 133) rfl)) (hw _ (List.mem_of_getElem? (i := 28) rfl)) (by decide) (by decide)) q147a q147b q147c (g := (mkF m 142 #[.val (.int p0), .val (.int p1), .val (.int p2), .val (.int (3 : Int32)), .val (.ref b104_0), .val (.ref b106), .val (.ref b128), .val (.int (0 : Int32))] [(.ref b106)])) rfl (by rw [hml]; rfl) (Steps.refl _) (argsL := []) (rest := []) (lenOf pd0_4 rfl) rfl (by show 2 * 0 + _ ≤ _; exact Nat.le_of_eq rfl) (hb hby at_142) (fun _ _ => ⟨rfl, rfl, (by decide : 8 + 0 ≤ _), (by decide : 29 + 0 ≤ _)⟩)
      dsimp only [Pt.U, Pt.locs, Pt.cells, Pt.slots] at X147 l147 y147 z147 st147 hQ147
      subst l147 y147 z147
      obtain ⟨rfl, N147q, K147⟩ := hQ147
      have f148_0 := Nat.le_trans f146_0 K147.1
      have f148_1 := Sta_keep0 f146_1 K147
      have f148_2 := Sta_keep0 f146_2 K147
      have f148_3 := f146_3.keep K147 nin0
      have f148_4 := f146_4.keep K147
      have f148_5 := f146_5.keep K147
      have f148_6 := f146_6.keep K147
      have f148_8 := f146_8.keep K147
      have f148_9 := f146_9.keep K147
      have f148_10 := f146_10.keep K147 nin0
      have f148_11 := f146_11.keep K147 nin0
      have f148_12 := f146_12.keep K147 nin0
      have f148_13 := f146_13.keep K147 nin0
      have f148_14 := f146_14.keep K147
      have f148_15 := f146_15.keep K147 nin0
      have f148_16 := f146_16.keep K147 nin0
      have N147 := Fr.app N145 N147q
      refine Wp.back (U' := (T147.setTop (mkF m 147 #[.val (.int p0), .val (.int p1), .val (.int p2), .val (.int (3 : Int32)), .val (.ref b104_0), .val (.ref b106), .val (.ref b128), .val (.int (0 : Int32))] [(.int (3 : Int32))]))) (fun t k => st147.trans k) ?_
      refine Wp.back (U' := (T147.setTop (mkF m 156 #[.val (.int p0), .val (.int p1), .val (.int p2), .val (.int (3 : Int32)), .val (.ref b104_0), .val (.ref b106), .val (.ref b128), .val (.int (0 : Int32))] [(.int (1 : Int32))]))) (fun t k => XS.iloadN X147.here hx rfl (hb hby at_147) rfl (XS.icmpNo X147.here hx rfl (hb hby at_148) rfl (teq (by decide)).2 (XT.iconstV X147.here hx rfl (1 : Int32) (hb hby at_151) (by decide) (XS.goto X147.here hx rfl (pc0 := 152) (pc' := 156) rfl (hb hby at_152) (by decide) (by decide) k)))) ?_
      obtain ⟨fs, hr, hrun, hended, hW, hsame⟩ := X147.leave (v := (some (.int (1 : Int32)))) (fun h => by rw [hret] at h; cases h)
      refine Wp.done (retN X147 hx (t := .boolean) hret (by simp) (hb hby at_156) hr) hrun hended ⟨_, _, rfl, ?_, ⟨_, rfl⟩, hW, hsame.mono (by decide) (by decide)⟩
      show QL n0 _ T147.heap _
      exact ⟨rfl, N147⟩
set_option maxRecDepth 65536 in
set_option maxHeartbeats 40000000 in
theorem comes_1 {Post : Tables → Env → Array Value → State → Outcome → State → Prop} (hpost : ∀ tb e args s v u, (limb_1_1.after args s (.returned v) u = true ∧ limb_1_2.after args s (.returned v) u = true ∧ True) → FrameEnd s (.returned v) u (Jvm.fieldLocs frame_1_writes args s ++ Jvm.arrayLocs frame_1_arrays args s ++ Jvm.staticLocs frame_1_statics s) 24 128 → Post tb e args s (.returned v) u) :
    ArmFor flags0 classFile x code maxLocals ret World_1 tables_1 room_1 Calls_1 rest_1 Pre_1 Post := by
  intro l hfl _ _ p e ha hc hk s m args below hf hA hF happ hP
  obtain ⟨hcalls, hrest, hpre⟩ := hP
  obtain ⟨-, -, -, hnamed, -, -, -, hat⟩ := (Spec.applies_iff hf).mp happ
  obtain ⟨hg, hn⟩ := and_e (Cond.before_iff.mp (show (Jvm.Cond.and given_1 narrow_1).before args s = true from hpre))
  obtain ⟨hg1, hg2⟩ := and_e hg
  obtain ⟨hg21, hg22⟩ := and_e hg2
  obtain ⟨hg221, hg222⟩ := and_e hg22
  obtain ⟨w0, w1, w2, rfl⟩ : ∃ w0 w1 w2 : Value, args = #[w0, w1, w2] := by
    have hs : args.size = 3 := by simpa [Cond.value, given_1] using hg1
    obtain ⟨L⟩ := args
    match L, hs with
    | [w0, w1, w2], _ => exact ⟨w0, w1, w2, rfl⟩
  have hw := fun d (hd : d ∈ tables_1) => atoms_spec (ws := Jvm.Cond.code x code maxLocals ret :: tables_1) hat d (List.mem_cons_of_mem _ hd)
  have hfit : Fit s := fun {y c} hc i hi => by
    obtain ⟨ha, rfl⟩ := Array.getElem?_eq_some_iff.mp hc
    have q := List.all_eq_true.mp ((Array.all_eq_true_iff_forall_mem.mp hF) _ (Array.getElem_mem ha)) i (List.mem_range.mpr hi)
    simpa [Array.getElem?_eq_getElem hi] using q
  obtain ⟨hsets, hown0⟩ := atoms_of _ (rest_1_c_eq ▸ (show rest_1_c.before _ s = true from hrest))
  have hr0 := Cond.before_iff.mp hown0
  obtain ⟨i0, ei0⟩ := is_v hg21
  obtain rfl : w0 = (.int i0) := Option.some.inj ei0
  obtain ⟨i1, ei1⟩ := is_v hg221
  obtain rfl : w1 = (.int i1) := Option.some.inj ei1
  obtain ⟨i2, ei2⟩ := is_v hg222
  obtain rfl : w2 = (.int i2) := Option.some.inj ei2
  obtain ⟨cs, ecs⟩ := is_v (Cond.before_iff.mp (hsets _ (List.mem_of_getElem? (i := 1) rfl)))
  have PC := Sta.start ecs (Or.inl (hsets _ (List.mem_of_getElem? (i := 0) rfl)))
  have hcs : ¬ cs = (0 : Int32) := gotF (Cond.eq_ints ecs rfl) (not_v (Cond.before_iff.mp (hsets _ (List.mem_of_getElem? (i := 2) rfl))))
  obtain ⟨de, ede⟩ := arr_v (Cond.before_iff.mp (hsets _ (List.mem_of_getElem? (i := 15) rfl)))
  have PD := Sta.start ede (Or.inr ⟨(hw _ (List.mem_of_getElem? (i := 28) rfl)), (hsets _ (List.mem_of_getElem? (i := 11) rfl))⟩)
  obtain ⟨cd, Ad⟩ := Arr.start ede (Cond.before_iff.mp (hsets _ (List.mem_of_getElem? (i := 15) rfl)))
  have PA := own_ar0 hfit Ad ede (Cond.before_iff.mp (hsets _ (List.mem_of_getElem? (i := 17) rfl)))
  obtain ⟨n, o, h1, h2, h3, _, L, rfl, ⟨rfl, N⟩, hq⟩ := rm_law l s _ hw tables_1 i0 i1 i2 cs de cd.cls s.heap s.heap.size (Nat.le_refl _) PC hcs PD PA p e ha hc hk s m _ below hf ((Spec.applies_iff_loose hf).mp happ).1 ⟨rfl, State.Warmed39.refl s, rfl⟩ trivial
  refine ⟨n, _, h1, h2, h3, hpost _ _ _ _ _ _ ⟨Cond.after_iff.mpr rfl, Cond.after_iff.mpr (eq_i res_at (Term.int_eval (1)) rfl), trivial⟩ ⟨hq.1, hq.2.1, (hq.2.2.sift fun y hy => Or.inr (N y hy)).mono (by decide) (by decide)⟩⟩
theorem main_1_1 : Claimed_1_1 := comes_1 fun _ _ _ _ _ _ h hF => ⟨h.1, hF⟩
theorem main_1_2 : Claimed_1_2 := comes_1 fun _ _ _ _ _ _ h hF => ⟨h.2.1, hF⟩
end Jvm.Pilot.@@N@@
namespace Jvm.Pilot.@@N@@
open Jvm Jvm.ClassFile Sem Op Lib Jvm.Free Jvm.Stand Jvm.Pilot.@@N@@.Jvm.D
/-! MADE BY PROGRAM (witnessworld.py) out of the Statement's table words and the real class files: 29 classes; the members and pool entries that the words name. The judged class is class 1, her method 1. -/
namespace start1
open Jvm.ClassFile
def u (s : String) : CpInfo := .utf8 (stringToUtf16 s)
/-- a pool by its gaps: so many unusable entries, then the entry; so many at the end -/
def gap : Nat → List CpInfo → List CpInfo
  | 0, r => r
  | n + 1, r => .unusable :: gap n r
def poolList (es : List (Nat × CpInfo)) (last : Nat) : List CpInfo := es.foldr (fun e r => gap e.1 (e.2 :: r)) (gap last [])
def pool (es : List (Nat × CpInfo)) (last : Nat) : Array CpInfo := ⟨poolList es last⟩
def fileOf (pool : Array CpInfo) (this : Nat) (attrs : Array Attribute := #[]) (ms : Array MethodInfo := #[]) (fl : Nat := 33) (sup : Nat := 0) (ifs : Array Nat := #[]) (fds : Array FieldInfo := #[]) : ClassFile where
  minorVersion := 0
  majorVersion := 65
  constantPool := pool
  accessFlags := fl
  thisClass := this
  superClass := sup
  interfaces := ifs
  fields := fds
  methods := ms
  attributes := attrs
def plain (name : String) (sup : Option ClassId) : Class where
  name := name
  kind := .ordinary
  loader := none
  accessFlags := 33
  super := sup
  interfaces := #[]
  cf := none
  fields := #[]
  methods := #[]
  instanceTypes := #[]
  staticTypes := #[]
  resolved := #[]
  callSites := []
  init := .initialized
  statics := none
  mirror := none

def pool0 : Array CpInfo := pool [(5, u "<init>"), (0, u "()V"), (1, .class_ 10), (1, u "java/lang/Object")] 113

def k0c0 : Code := { maxStack := 0, maxLocals := 1, code := object_method_1_code, exceptionTable := #[], attributes := #[] }
def k0m0 : Method := { name := "<init>", desc := "()V", sig := { parameters := [], returnType := none }, accessFlags := 1, code := some k0c0 }
/-- java/lang/Object -/
def k0 : Class := { plain "java/lang/Object" none with
  accessFlags := 33
  interfaces := #[]
  cf := some (fileOf pool0 8 #[] #[{ accessFlags := 1, nameIndex := 5, descriptorIndex := 6, attributes := #[] }] 33 0 #[] #[])
  fields := #[]
  methods := #[k0m0]
  instanceTypes := #[]
  staticTypes := #[]
  resolved := Array.replicate 124 none
  statics := none }

def pool1 : Array CpInfo := pool [(2, .class_ 4), (0, .nameAndType 5 6), (0, u "java/lang/Object"), (0, u "<init>"), (0, u "()V"), (0, .methodref 8 9), (0, .class_ 10), (0, .nameAndType 11 12), (0, u "java/lang/String"), (0, u "valueOf"), (0, u "(C)Ljava/lang/String;"), (0, .class_ 14), (0, u "java/util/ArrayList"), (0, .methodref 13 3), (0, .class_ 17), (0, u "com/example/treewright/treewright/schema/AugmentTarget$Step"), (0, .methodref 16 19), (0, .nameAndType 5 20), (0, u "(Ljava/lang/String;Ljava/lang/String;Ljava/lang/String;)V"), (0, .methodref 13 22), (0, .nameAndType 23 24), (0, u "add"), (0, u "(Ljava/lang/Object;)Z"), (0, .class_ 26), (0, u "com/example/treewright/treewright/schema/AugmentTarget$Path"), (0, .methodref 25 28), (0, .nameAndType 5 29), (0, u "(Ljava/util/List;I)V"), (0, .methodref 25 31), (0, .nameAndType 32 33), (0, u "startsOwn"), (0, u "()Z"), (0, .methodref 25 35), (0, .nameAndType 36 37), (0, u "ownFrom"), (0, u "()I"), (0, .methodref 25 39), (0, .nameAndType 40 41), (0, u "steps"), (0, u "()Ljava/util/List;"), (0, .interfaceMethodref 43 44), (0, .class_ 45), (0, .nameAndType 46 37), (0, u "java/util/List"), (0, u "size"), (0, .class_ 48), (0, u "com/example/treewright/treewright/schema/PathStartsOwnPinLaw"), (2, u "law"), (0, u "(III)Z")] 8

def k1m0 : Method := { name := "<init>", desc := "()V", sig := { parameters := [], returnType := none }, accessFlags := 1, code := none }
def k1c1 : Code := { maxStack := 6, maxLocals := 8, code := code, exceptionTable := #[], attributes := #[] }
def k1m1 : Method := { name := "law", desc := "(III)Z", sig := { parameters := [.int, .int, .int], returnType := some .boolean }, accessFlags := 9, code := some k1c1 }
/-- com/example/treewright/treewright/schema/PathStartsOwnPinLaw -/
def k1 : Class := { plain "com/example/treewright/treewright/schema/PathStartsOwnPinLaw" (some 0) with
  accessFlags := 49
  interfaces := #[]
  cf := some (fileOf pool1 47 #[] #[{ accessFlags := 1, nameIndex := 5, descriptorIndex := 6, attributes := #[] }, { accessFlags := 9, nameIndex := 51, descriptorIndex := 52, attributes := #[] }] 49 2 #[] #[])
  fields := #[]
  methods := #[k1m0, k1m1]
  instanceTypes := #[]
  staticTypes := #[]
  resolved := Array.replicate 61 none
  statics := none }

def pool2 : Array CpInfo := pool [(1, .class_ 2), (0, u "java/io/Serializable"), (0, .class_ 4), (0, u "java/lang/Object")] 2

/-- java/io/Serializable -/
def k2 : Class := { plain "java/io/Serializable" (some 0) with
  accessFlags := 1537
  interfaces := #[]
  cf := some (fileOf pool2 1 #[] #[] 1537 3 #[] #[])
  fields := #[]
  methods := #[]
  instanceTypes := #[]
  staticTypes := #[]
  resolved := Array.replicate 7 none
  statics := none }

def pool3 : Array CpInfo := pool [(1, .class_ 2), (0, u "java/lang/Comparable"), (0, .class_ 4), (0, u "java/lang/Object")] 7

/-- java/lang/Comparable -/
def k3 : Class := { plain "java/lang/Comparable" (some 0) with
  accessFlags := 1537
  interfaces := #[]
  cf := some (fileOf pool3 1 #[] #[] 1537 3 #[] #[])
  fields := #[]
  methods := #[]
  instanceTypes := #[]
  staticTypes := #[]
  resolved := Array.replicate 12 none
  statics := none }

def pool4 : Array CpInfo := pool [(2, .class_ 4), (1, u "java/lang/CharSequence"), (42, .class_ 48), (0, u "java/lang/CharSequence$1CodePointIterator"), (10, .class_ 60), (0, u "java/lang/CharSequence$1CharIterator"), (5, .class_ 67), (0, u "java/lang/Object")] 63

/-- java/lang/CharSequence -/
def k4 : Class := { plain "java/lang/CharSequence" (some 0) with
  accessFlags := 1537
  interfaces := #[]
  cf := some (fileOf pool4 2 #[.nestMembers #[47, 59]] #[] 1537 66 #[] #[])
  fields := #[]
  methods := #[]
  instanceTypes := #[]
  staticTypes := #[]
  resolved := Array.replicate 131 none
  statics := none }

def pool5 : Array CpInfo := pool [(1, .class_ 2), (0, u "java/lang/constant/Constable"), (0, .class_ 4), (0, u "java/lang/Object")] 6

/-- java/lang/constant/Constable -/
def k5 : Class := { plain "java/lang/constant/Constable" (some 0) with
  accessFlags := 1537
  interfaces := #[]
  cf := some (fileOf pool5 1 #[] #[] 1537 3 #[] #[])
  fields := #[]
  methods := #[]
  instanceTypes := #[]
  staticTypes := #[]
  resolved := Array.replicate 11 none
  statics := none }

def pool6 : Array CpInfo := pool [(1, .class_ 2), (0, u "java/lang/constant/ConstantDesc"), (0, .class_ 4), (0, u "java/lang/Object")] 32

/-- java/lang/constant/ConstantDesc -/
def k6 : Class := { plain "java/lang/constant/ConstantDesc" (some 0) with
  accessFlags := 1537
  interfaces := #[]
  cf := some (fileOf pool6 1 #[] #[] 1537 3 #[] #[])
  fields := #[]
  methods := #[]
  instanceTypes := #[]
  staticTypes := #[]
  resolved := Array.replicate 37 none
  statics := none }

def pool7 : Array CpInfo := pool [(1, .methodref 2 3), (0, .class_ 4), (0, .nameAndType 5 6), (0, u "java/lang/Object"), (0, u "<init>"), (0, u "()V"), (2, .fieldref 10 11), (0, .class_ 12), (0, .nameAndType 13 14), (0, u "java/lang/String"), (0, u "value"), (0, u "[B"), (0, .fieldref 10 16), (0, .nameAndType 17 18), (0, u "coder"), (0, u "B"), (2, u "hash"), (0, u "I"), (2, u "hashIsZero"), (0, u "Z"), (11, .fieldref 10 39), (0, .nameAndType 40 26), (0, u "COMPACT_STRINGS"), (12, u "toBytes"), (53, .class_ 109), (1, u "java/lang/StringLatin1"), (99, .methodref 10 210), (0, .nameAndType 5 211), (0, u "([BB)V"), (157, u "(C)Z"), (205, .class_ 576), (0, u "java/lang/CharSequence"), (22, u "CASE_INSENSITIVE_ORDER"), (0, u "Ljava/util/Comparator;"), (181, u "valueOf"), (0, u "(C)Ljava/lang/String;"), (231, .methodref 107 1016), (0, .nameAndType 1017 369), (0, u "canEncode"), (0, .methodref 107 1019), (0, .nameAndType 53 1020), (0, u "(C)[B"), (80, u "serialPersistentFields"), (0, u "[Ljava/io/ObjectStreamField;"), (0, .class_ 1104), (0, u "java/lang/String$CaseInsensitiveComparator"), (1, .class_ 1107), (0, u "java/io/Serializable"), (0, .class_ 1109), (0, u "java/lang/Comparable"), (0, .class_ 1111), (0, u "java/lang/constant/Constable"), (0, .class_ 1113), (0, u "java/lang/constant/ConstantDesc"), (2, u "serialVersionUID"), (0, u "J"), (3, u "REPL"), (0, u "C"), (2, u "LATIN1"), (1, u "UTF16")] 323

def k7m0 : Method := { name := "<init>", desc := "()V", sig := { parameters := [], returnType := none }, accessFlags := 1, code := none }
def k7c1 : Code := { maxStack := 4, maxLocals := 1, code := jdk_42_method_139_code, exceptionTable := #[], attributes := #[] }
def k7m1 : Method := { name := "valueOf", desc := "(C)Ljava/lang/String;", sig := { parameters := [.char], returnType := some (.object "java/lang/String") }, accessFlags := 9, code := some k7c1 }
def k7c2 : Code := { maxStack := 2, maxLocals := 3, code := jdk_42_method_151_code, exceptionTable := #[], attributes := #[] }
def k7m2 : Method := { name := "<init>", desc := "([BB)V", sig := { parameters := [(.array .byte), .byte], returnType := none }, accessFlags := 0, code := some k7c2 }
/-- java/lang/String -/
def k7 : Class := { plain "java/lang/String" (some 0) with
  accessFlags := 49
  interfaces := #[2, 3, 4, 5, 6]
  cf := some (fileOf pool7 10 #[.nestMembers #[1103]] #[{ accessFlags := 1, nameIndex := 5, descriptorIndex := 6, attributes := #[] }, { accessFlags := 9, nameIndex := 782, descriptorIndex := 783, attributes := #[] }, { accessFlags := 0, nameIndex := 5, descriptorIndex := 211, attributes := #[] }] 49 2 #[1106, 1108, 575, 1110, 1112] #[{ accessFlags := 18, nameIndex := 13, descriptorIndex := 14, attributes := #[] }, { accessFlags := 18, nameIndex := 17, descriptorIndex := 18, attributes := #[] }, { accessFlags := 2, nameIndex := 21, descriptorIndex := 22, attributes := #[] }, { accessFlags := 2, nameIndex := 25, descriptorIndex := 26, attributes := #[] }, { accessFlags := 26, nameIndex := 1116, descriptorIndex := 1117, attributes := #[] }, { accessFlags := 24, nameIndex := 40, descriptorIndex := 26, attributes := #[] }, { accessFlags := 26, nameIndex := 1101, descriptorIndex := 1102, attributes := #[] }, { accessFlags := 26, nameIndex := 1121, descriptorIndex := 1122, attributes := #[] }, { accessFlags := 25, nameIndex := 599, descriptorIndex := 600, attributes := #[] }, { accessFlags := 24, nameIndex := 1125, descriptorIndex := 18, attributes := #[] }, { accessFlags := 24, nameIndex := 1127, descriptorIndex := 18, attributes := #[] }])
  fields := #[{ name := "value", type := (.array .byte), accessFlags := 18, slot := 0, constantValue := 0 }, { name := "coder", type := .byte, accessFlags := 18, slot := 1, constantValue := 0 }, { name := "hash", type := .int, accessFlags := 2, slot := 2, constantValue := 0 }, { name := "hashIsZero", type := .boolean, accessFlags := 2, slot := 3, constantValue := 0 }, { name := "serialVersionUID", type := .long, accessFlags := 26, slot := 0, constantValue := 0 }, { name := "COMPACT_STRINGS", type := .boolean, accessFlags := 24, slot := 1, constantValue := 0 }, { name := "serialPersistentFields", type := (.array (.object "java/io/ObjectStreamField")), accessFlags := 26, slot := 2, constantValue := 0 }, { name := "REPL", type := .char, accessFlags := 26, slot := 3, constantValue := 0 }, { name := "CASE_INSENSITIVE_ORDER", type := (.object "java/util/Comparator"), accessFlags := 25, slot := 4, constantValue := 0 }, { name := "LATIN1", type := .byte, accessFlags := 24, slot := 5, constantValue := 0 }, { name := "UTF16", type := .byte, accessFlags := 24, slot := 6, constantValue := 0 }]
  methods := #[k7m0, k7m1, k7m2]
  instanceTypes := #[(.array .byte), .byte, .int, .boolean]
  staticTypes := #[.long, .boolean, (.array (.object "java/io/ObjectStreamField")), .char, (.object "java/util/Comparator"), .byte, .byte]
  resolved := Array.replicate 1451 none
  statics := some 0 }

def pool8 : Array CpInfo := pool [(4, .class_ 6), (1, u "java/lang/Object"), (0, u "<init>"), (0, u "()V"), (5, .class_ 16), (1, u "java/lang/StringLatin1"), (73, u "canEncode"), (14, u "(C)Z"), (15, u "$assertionsDisabled"), (0, u "Z"), (98, .class_ 223), (1, u "java/lang/StringLatin1$LinesSpliterator"), (156, u "toBytes"), (1, u "(C)[B"), (7, .class_ 391), (0, u "java/lang/StringLatin1$CharsSpliterator")] 3

def k8m0 : Method := { name := "<init>", desc := "()V", sig := { parameters := [], returnType := none }, accessFlags := 0, code := none }
def k8c1 : Code := { maxStack := 2, maxLocals := 1, code := jdk_43_method_3_code, exceptionTable := #[], attributes := #[] }
def k8m1 : Method := { name := "canEncode", desc := "(C)Z", sig := { parameters := [.char], returnType := some .boolean }, accessFlags := 9, code := some k8c1 }
def k8c2 : Code := { maxStack := 4, maxLocals := 1, code := jdk_43_method_46_code, exceptionTable := #[], attributes := #[] }
def k8m2 : Method := { name := "toBytes", desc := "(C)[B", sig := { parameters := [.char], returnType := some (.array .byte) }, accessFlags := 9, code := some k8c2 }
/-- java/lang/StringLatin1 -/
def k8 : Class := { plain "java/lang/StringLatin1" (some 0) with
  accessFlags := 48
  interfaces := #[]
  cf := some (fileOf pool8 14 #[.nestMembers #[390, 221]] #[{ accessFlags := 0, nameIndex := 7, descriptorIndex := 8, attributes := #[] }, { accessFlags := 9, nameIndex := 90, descriptorIndex := 105, attributes := #[] }, { accessFlags := 9, nameIndex := 380, descriptorIndex := 382, attributes := #[] }] 48 4 #[] #[{ accessFlags := 4120, nameIndex := 121, descriptorIndex := 122, attributes := #[] }])
  fields := #[{ name := "$assertionsDisabled", type := .boolean, accessFlags := 4120, slot := 0, constantValue := 0 }]
  methods := #[k8m0, k8m1, k8m2]
  instanceTypes := #[]
  staticTypes := #[.boolean]
  resolved := Array.replicate 395 none
  statics := none }

def pool9 : Array CpInfo := pool [(8, .class_ 10), (1, u "java/lang/Iterable"), (24, .class_ 36), (0, u "java/lang/Object")] 25

/-- java/lang/Iterable -/
def k9 : Class := { plain "java/lang/Iterable" (some 0) with
  accessFlags := 1537
  interfaces := #[]
  cf := some (fileOf pool9 8 #[] #[] 1537 35 #[] #[])
  fields := #[]
  methods := #[]
  instanceTypes := #[]
  staticTypes := #[]
  resolved := Array.replicate 62 none
  statics := none }

def pool10 : Array CpInfo := pool [(10, .class_ 12), (1, u "java/util/Collection"), (47, .class_ 61), (0, u "java/lang/Object"), (0, .class_ 63), (0, u "java/lang/Iterable")] 51

/-- java/util/Collection -/
def k10 : Class := { plain "java/util/Collection" (some 0) with
  accessFlags := 1537
  interfaces := #[9]
  cf := some (fileOf pool10 10 #[] #[] 1537 60 #[62] #[])
  fields := #[]
  methods := #[]
  instanceTypes := #[]
  staticTypes := #[]
  resolved := Array.replicate 115 none
  statics := none }

def pool11 : Array CpInfo := pool [(1, .methodref 2 3), (0, .class_ 4), (0, .nameAndType 5 6), (0, u "java/lang/Object"), (0, u "<init>"), (0, u "()V"), (1, .class_ 10), (1, u "java/util/AbstractCollection"), (66, .class_ 78), (0, u "java/util/Collection")] 81

def k11c0 : Code := { maxStack := 1, maxLocals := 1, code := jdk_22_method_1_code, exceptionTable := #[], attributes := #[] }
def k11m0 : Method := { name := "<init>", desc := "()V", sig := { parameters := [], returnType := none }, accessFlags := 4, code := some k11c0 }
/-- java/util/AbstractCollection -/
def k11 : Class := { plain "java/util/AbstractCollection" (some 0) with
  accessFlags := 1057
  interfaces := #[10]
  cf := some (fileOf pool11 8 #[] #[{ accessFlags := 4, nameIndex := 5, descriptorIndex := 6, attributes := #[] }] 1057 2 #[77] #[])
  fields := #[]
  methods := #[k11m0]
  instanceTypes := #[]
  staticTypes := #[]
  resolved := Array.replicate 160 none
  statics := none }

def pool12 : Array CpInfo := pool [(8, .class_ 10), (1, u "java/util/SequencedCollection"), (15, .class_ 27), (0, u "java/lang/Object"), (0, .class_ 29), (0, u "java/util/Collection")] 27

/-- java/util/SequencedCollection -/
def k12 : Class := { plain "java/util/SequencedCollection" (some 0) with
  accessFlags := 1537
  interfaces := #[10]
  cf := some (fileOf pool12 8 #[] #[] 1537 26 #[28] #[])
  fields := #[]
  methods := #[]
  instanceTypes := #[]
  staticTypes := #[]
  resolved := Array.replicate 57 none
  statics := none }

def pool13 : Array CpInfo := pool [(8, .class_ 10), (1, u "java/util/List"), (68, u "size"), (0, u "()I"), (22, .class_ 104), (0, u "java/lang/Object"), (15, .class_ 121), (0, u "java/util/SequencedCollection")] 129

def k13m0 : Method := { name := "size", desc := "()I", sig := { parameters := [], returnType := some .int }, accessFlags := 1025, code := none }
/-- java/util/List -/
def k13 : Class := { plain "java/util/List" (some 0) with
  accessFlags := 1537
  interfaces := #[12]
  cf := some (fileOf pool13 8 #[] #[{ accessFlags := 1025, nameIndex := 79, descriptorIndex := 80, attributes := #[] }] 1537 103 #[120] #[])
  fields := #[]
  methods := #[k13m0]
  instanceTypes := #[]
  staticTypes := #[]
  resolved := Array.replicate 251 none
  statics := none }

def pool14 : Array CpInfo := pool [(1, .methodref 2 3), (0, .class_ 4), (0, .nameAndType 5 6), (0, u "java/util/AbstractCollection"), (0, u "<init>"), (0, u "()V"), (0, .fieldref 8 9), (0, .class_ 10), (0, .nameAndType 11 12), (0, u "java/util/AbstractList"), (0, u "modCount"), (0, u "I"), (64, .class_ 78), (0, u "java/util/AbstractList$Itr"), (3, .class_ 83), (0, u "java/util/AbstractList$ListItr"), (9, .class_ 94), (0, u "java/util/AbstractList$RandomAccessSubList"), (3, .class_ 99), (0, u "java/util/AbstractList$SubList"), (33, .class_ 134), (0, u "java/util/List"), (73, .class_ 209), (0, u "java/util/AbstractList$SubList$1"), (0, .class_ 211), (0, u "java/util/AbstractList$RandomAccessSpliterator")] 6

def k14c0 : Code := { maxStack := 2, maxLocals := 1, code := jdk_39_method_1_code, exceptionTable := #[], attributes := #[] }
def k14m0 : Method := { name := "<init>", desc := "()V", sig := { parameters := [], returnType := none }, accessFlags := 4, code := some k14c0 }
/-- java/util/AbstractList -/
def k14 : Class := { plain "java/util/AbstractList" (some 11) with
  accessFlags := 1057
  interfaces := #[13]
  cf := some (fileOf pool14 8 #[.nestMembers #[93, 98, 208, 210, 82, 77]] #[{ accessFlags := 4, nameIndex := 5, descriptorIndex := 6, attributes := #[] }] 1057 2 #[133] #[{ accessFlags := 132, nameIndex := 11, descriptorIndex := 12, attributes := #[] }])
  fields := #[{ name := "modCount", type := .int, accessFlags := 132, slot := 0, constantValue := 0 }]
  methods := #[k14m0]
  instanceTypes := #[.int]
  staticTypes := #[]
  resolved := Array.replicate 218 none
  statics := none }

def pool15 : Array CpInfo := pool [(1, .class_ 2), (0, u "java/util/RandomAccess"), (0, .class_ 4), (0, u "java/lang/Object")] 2

/-- java/util/RandomAccess -/
def k15 : Class := { plain "java/util/RandomAccess" (some 0) with
  accessFlags := 1537
  interfaces := #[]
  cf := some (fileOf pool15 1 #[] #[] 1537 3 #[] #[])
  fields := #[]
  methods := #[]
  instanceTypes := #[]
  staticTypes := #[]
  resolved := Array.replicate 7 none
  statics := none }

def pool16 : Array CpInfo := pool [(1, .class_ 2), (0, u "java/lang/Cloneable"), (0, .class_ 4), (0, u "java/lang/Object")] 2

/-- java/lang/Cloneable -/
def k16 : Class := { plain "java/lang/Cloneable" (some 0) with
  accessFlags := 1537
  interfaces := #[]
  cf := some (fileOf pool16 1 #[] #[] 1537 3 #[] #[])
  fields := #[]
  methods := #[]
  instanceTypes := #[]
  staticTypes := #[]
  resolved := Array.replicate 7 none
  statics := none }

def pool17 : Array CpInfo := pool [(1, .methodref 2 3), (0, .class_ 4), (0, .nameAndType 5 6), (0, u "java/util/AbstractList"), (0, u "<init>"), (0, u "()V"), (0, .class_ 8), (0, u "java/lang/Object"), (0, .fieldref 10 11), (0, .class_ 12), (0, .nameAndType 13 14), (0, u "java/util/ArrayList"), (0, u "elementData"), (0, u "[Ljava/lang/Object;"), (2, u "EMPTY_ELEMENTDATA"), (21, .fieldref 10 40), (0, .nameAndType 41 14), (0, u "DEFAULTCAPACITY_EMPTY_ELEMENTDATA"), (5, u "()[Ljava/lang/Object;"), (0, .fieldref 10 49), (0, .nameAndType 50 51), (0, u "size"), (0, u "I"), (11, .fieldref 10 64), (0, .nameAndType 65 51), (0, u "modCount"), (3, .methodref 10 70), (0, .nameAndType 71 72), (0, u "grow"), (0, u "(I)[Ljava/lang/Object;"), (6, .methodref 80 81), (0, .class_ 82), (0, .nameAndType 83 84), (0, u "java/lang/Math"), (0, u "max"), (0, u "(II)I"), (11, u "(Ljava/lang/Object;)Z"), (32, .methodref 10 130), (0, .nameAndType 71 47), (0, .methodref 10 132), (0, .nameAndType 133 134), (0, u "add"), (0, u "(Ljava/lang/Object;[Ljava/lang/Object;I)V"), (13, .class_ 149), (0, u "java/util/List"), (36, u "()I"), (75, .class_ 263), (0, u "java/util/ArrayList$ListItr"), (3, .class_ 268), (0, u "java/util/ArrayList$Itr"), (7, .class_ 277), (0, u "java/util/ArrayList$SubList"), (12, .class_ 291), (0, u "java/util/ArrayList$ArrayListSpliterator"), (37, .class_ 330), (0, u "java/util/RandomAccess"), (0, .class_ 332), (0, u "java/lang/Cloneable"), (0, .class_ 334), (0, u "java/io/Serializable"), (0, u "serialVersionUID"), (0, u "J"), (3, u "DEFAULT_CAPACITY"), (159, .class_ 501), (0, u "java/util/ArrayList$SubList$2"), (0, .class_ 503), (0, u "java/util/ArrayList$SubList$1")] 5

def k17c0 : Code := { maxStack := 2, maxLocals := 1, code := jdk_38_method_2_code, exceptionTable := #[], attributes := #[] }
def k17m0 : Method := { name := "<init>", desc := "()V", sig := { parameters := [], returnType := none }, accessFlags := 1, code := some k17c0 }
def k17c1 : Code := { maxStack := 4, maxLocals := 4, code := jdk_38_method_6_code, exceptionTable := #[], attributes := #[] }
def k17m1 : Method := { name := "grow", desc := "(I)[Ljava/lang/Object;", sig := { parameters := [.int], returnType := some (.array (.object "java/lang/Object")) }, accessFlags := 2, code := some k17c1 }
def k17c2 : Code := { maxStack := 3, maxLocals := 1, code := jdk_38_method_7_code, exceptionTable := #[], attributes := #[] }
def k17m2 : Method := { name := "grow", desc := "()[Ljava/lang/Object;", sig := { parameters := [], returnType := some (.array (.object "java/lang/Object")) }, accessFlags := 2, code := some k17c2 }
def k17c3 : Code := { maxStack := 1, maxLocals := 1, code := jdk_38_method_8_code, exceptionTable := #[], attributes := #[] }
def k17m3 : Method := { name := "size", desc := "()I", sig := { parameters := [], returnType := some .int }, accessFlags := 1, code := some k17c3 }
def k17c4 : Code := { maxStack := 3, maxLocals := 4, code := jdk_38_method_24_code, exceptionTable := #[], attributes := #[] }
def k17m4 : Method := { name := "add", desc := "(Ljava/lang/Object;[Ljava/lang/Object;I)V", sig := { parameters := [(.object "java/lang/Object"), (.array (.object "java/lang/Object")), .int], returnType := none }, accessFlags := 2, code := some k17c4 }
def k17c5 : Code := { maxStack := 4, maxLocals := 2, code := jdk_38_method_25_code, exceptionTable := #[], attributes := #[] }
def k17m5 : Method := { name := "add", desc := "(Ljava/lang/Object;)Z", sig := { parameters := [(.object "java/lang/Object")], returnType := some .boolean }, accessFlags := 1, code := some k17c5 }
/-- java/util/ArrayList -/
def k17 : Class := { plain "java/util/ArrayList" (some 14) with
  accessFlags := 33
  interfaces := #[13, 15, 16, 2]
  cf := some (fileOf pool17 10 #[.nestMembers #[290, 276, 500, 502, 262, 267]] #[{ accessFlags := 1, nameIndex := 5, descriptorIndex := 6, attributes := #[] }, { accessFlags := 2, nameIndex := 71, descriptorIndex := 72, attributes := #[] }, { accessFlags := 2, nameIndex := 71, descriptorIndex := 47, attributes := #[] }, { accessFlags := 1, nameIndex := 50, descriptorIndex := 186, attributes := #[] }, { accessFlags := 2, nameIndex := 133, descriptorIndex := 134, attributes := #[] }, { accessFlags := 1, nameIndex := 133, descriptorIndex := 96, attributes := #[] }] 33 2 #[148, 329, 331, 333] #[{ accessFlags := 26, nameIndex := 335, descriptorIndex := 336, attributes := #[] }, { accessFlags := 26, nameIndex := 340, descriptorIndex := 51, attributes := #[] }, { accessFlags := 26, nameIndex := 17, descriptorIndex := 14, attributes := #[] }, { accessFlags := 26, nameIndex := 41, descriptorIndex := 14, attributes := #[] }, { accessFlags := 128, nameIndex := 13, descriptorIndex := 14, attributes := #[] }, { accessFlags := 2, nameIndex := 50, descriptorIndex := 51, attributes := #[] }])
  fields := #[{ name := "serialVersionUID", type := .long, accessFlags := 26, slot := 0, constantValue := 0 }, { name := "DEFAULT_CAPACITY", type := .int, accessFlags := 26, slot := 1, constantValue := 0 }, { name := "EMPTY_ELEMENTDATA", type := (.array (.object "java/lang/Object")), accessFlags := 26, slot := 2, constantValue := 0 }, { name := "DEFAULTCAPACITY_EMPTY_ELEMENTDATA", type := (.array (.object "java/lang/Object")), accessFlags := 26, slot := 3, constantValue := 0 }, { name := "elementData", type := (.array (.object "java/lang/Object")), accessFlags := 128, slot := 1, constantValue := 0 }, { name := "size", type := .int, accessFlags := 2, slot := 2, constantValue := 0 }]
  methods := #[k17m0, k17m1, k17m2, k17m3, k17m4, k17m5]
  instanceTypes := #[.int, (.array (.object "java/lang/Object")), .int]
  staticTypes := #[.long, .int, (.array (.object "java/lang/Object")), (.array (.object "java/lang/Object"))]
  resolved := Array.replicate 509 none
  statics := some 1 }

def pool18 : Array CpInfo := pool [(1, .methodref 2 3), (0, .class_ 4), (0, .nameAndType 5 6), (0, u "java/lang/Object"), (0, u "<init>"), (0, u "()V"), (0, .class_ 8), (0, u "java/lang/Record")] 13

def k18c0 : Code := { maxStack := 1, maxLocals := 1, code := jdk_30_method_1_code, exceptionTable := #[], attributes := #[] }
def k18m0 : Method := { name := "<init>", desc := "()V", sig := { parameters := [], returnType := none }, accessFlags := 4, code := some k18c0 }
/-- java/lang/Record -/
def k18 : Class := { plain "java/lang/Record" (some 0) with
  accessFlags := 1057
  interfaces := #[]
  cf := some (fileOf pool18 7 #[] #[{ accessFlags := 4, nameIndex := 5, descriptorIndex := 6, attributes := #[] }] 1057 2 #[] #[])
  fields := #[]
  methods := #[k18m0]
  instanceTypes := #[]
  staticTypes := #[]
  resolved := Array.replicate 22 none
  statics := none }

def pool19 : Array CpInfo := pool [(1, .methodref 2 3), (0, .class_ 4), (0, .nameAndType 5 6), (0, u "java/lang/Record"), (0, u "<init>"), (0, u "()V"), (0, .fieldref 8 9), (0, .class_ 10), (0, .nameAndType 11 12), (0, u "com/example/treewright/treewright/schema/AugmentTarget$Step"), (0, u "prefix"), (0, u "Ljava/lang/String;"), (0, .fieldref 8 14), (0, .nameAndType 15 12), (0, u "module"), (0, .fieldref 8 17), (0, .nameAndType 18 12), (0, u "name"), (16, u "(Ljava/lang/String;Ljava/lang/String;Ljava/lang/String;)V"), (10, .class_ 47), (0, u "com/example/treewright/treewright/schema/AugmentTarget")] 29

def k19c0 : Code := { maxStack := 2, maxLocals := 4, code := prog_19_method_1_code, exceptionTable := #[], attributes := #[] }
def k19m0 : Method := { name := "<init>", desc := "(Ljava/lang/String;Ljava/lang/String;Ljava/lang/String;)V", sig := { parameters := [(.object "java/lang/String"), (.object "java/lang/String"), (.object "java/lang/String")], returnType := none }, accessFlags := 0, code := some k19c0 }
/-- com/example/treewright/treewright/schema/AugmentTarget$Step -/
def k19 : Class := { plain "com/example/treewright/treewright/schema/AugmentTarget$Step" (some 18) with
  accessFlags := 48
  interfaces := #[]
  cf := some (fileOf pool19 8 #[.nestHost 46] #[{ accessFlags := 0, nameIndex := 5, descriptorIndex := 35, attributes := #[] }] 48 2 #[] #[{ accessFlags := 18, nameIndex := 11, descriptorIndex := 12, attributes := #[] }, { accessFlags := 18, nameIndex := 15, descriptorIndex := 12, attributes := #[] }, { accessFlags := 18, nameIndex := 18, descriptorIndex := 12, attributes := #[] }])
  fields := #[{ name := "prefix", type := (.object "java/lang/String"), accessFlags := 18, slot := 0, constantValue := 0 }, { name := "module", type := (.object "java/lang/String"), accessFlags := 18, slot := 1, constantValue := 0 }, { name := "name", type := (.object "java/lang/String"), accessFlags := 18, slot := 2, constantValue := 0 }]
  methods := #[k19m0]
  instanceTypes := #[(.object "java/lang/String"), (.object "java/lang/String"), (.object "java/lang/String")]
  staticTypes := #[]
  resolved := Array.replicate 77 none
  statics := none }

def pool20 : Array CpInfo := pool [(1, .class_ 2), (0, u "java/lang/Math"), (1, .class_ 6), (1, u "java/lang/Object"), (0, u "<init>"), (0, u "()V"), (89, .class_ 100), (1, u "java/lang/Math$RandomNumberGeneratorHolder"), (71, u "negativeZeroFloatBits"), (0, u "J"), (2, u "negativeZeroDoubleBits"), (21, u "max"), (46, u "$assertionsDisabled"), (0, u "Z"), (88, u "(II)I"), (2, u "twoToTheDoubleScaleDown"), (0, u "D"), (4, u "twoToTheDoubleScaleUp"), (9, u "E"), (3, u "PI"), (2, u "TAU"), (2, u "DEGREES_TO_RADIANS"), (0, u "RADIANS_TO_DEGREES")] 94

def k20m0 : Method := { name := "<init>", desc := "()V", sig := { parameters := [], returnType := none }, accessFlags := 2, code := none }
def k20c1 : Code := { maxStack := 2, maxLocals := 2, code := jdk_29_method_65_code, exceptionTable := #[], attributes := #[] }
def k20m1 : Method := { name := "max", desc := "(II)I", sig := { parameters := [.int, .int], returnType := some .int }, accessFlags := 9, code := some k20c1 }
/-- java/lang/Math -/
def k20 : Class := { plain "java/lang/Math" (some 0) with
  accessFlags := 49
  interfaces := #[]
  cf := some (fileOf pool20 1 #[.nestMembers #[98]] #[{ accessFlags := 2, nameIndex := 7, descriptorIndex := 8, attributes := #[] }, { accessFlags := 9, nameIndex := 198, descriptorIndex := 335, attributes := #[] }] 49 4 #[] #[{ accessFlags := 25, nameIndex := 354, descriptorIndex := 339, attributes := #[] }, { accessFlags := 25, nameIndex := 358, descriptorIndex := 339, attributes := #[] }, { accessFlags := 25, nameIndex := 361, descriptorIndex := 339, attributes := #[] }, { accessFlags := 26, nameIndex := 364, descriptorIndex := 339, attributes := #[] }, { accessFlags := 26, nameIndex := 365, descriptorIndex := 339, attributes := #[] }, { accessFlags := 26, nameIndex := 172, descriptorIndex := 173, attributes := #[] }, { accessFlags := 26, nameIndex := 176, descriptorIndex := 173, attributes := #[] }, { accessFlags := 8, nameIndex := 344, descriptorIndex := 339, attributes := #[] }, { accessFlags := 8, nameIndex := 338, descriptorIndex := 339, attributes := #[] }, { accessFlags := 4120, nameIndex := 245, descriptorIndex := 246, attributes := #[] }])
  fields := #[{ name := "E", type := .double, accessFlags := 25, slot := 0, constantValue := 0 }, { name := "PI", type := .double, accessFlags := 25, slot := 1, constantValue := 0 }, { name := "TAU", type := .double, accessFlags := 25, slot := 2, constantValue := 0 }, { name := "DEGREES_TO_RADIANS", type := .double, accessFlags := 26, slot := 3, constantValue := 0 }, { name := "RADIANS_TO_DEGREES", type := .double, accessFlags := 26, slot := 4, constantValue := 0 }, { name := "negativeZeroFloatBits", type := .long, accessFlags := 26, slot := 5, constantValue := 0 }, { name := "negativeZeroDoubleBits", type := .long, accessFlags := 26, slot := 6, constantValue := 0 }, { name := "twoToTheDoubleScaleUp", type := .double, accessFlags := 8, slot := 7, constantValue := 0 }, { name := "twoToTheDoubleScaleDown", type := .double, accessFlags := 8, slot := 8, constantValue := 0 }, { name := "$assertionsDisabled", type := .boolean, accessFlags := 4120, slot := 9, constantValue := 0 }]
  methods := #[k20m0, k20m1]
  instanceTypes := #[]
  staticTypes := #[.double, .double, .double, .double, .double, .long, .long, .double, .double, .boolean]
  resolved := Array.replicate 460 none
  statics := none }

def pool21 : Array CpInfo := pool [(1, .methodref 2 3), (0, .class_ 4), (0, .nameAndType 5 6), (0, u "java/lang/Record"), (0, u "<init>"), (0, u "()V"), (0, .fieldref 8 9), (0, .class_ 10), (0, .nameAndType 11 12), (0, u "com/example/treewright/treewright/schema/AugmentTarget$Path"), (0, u "steps"), (0, u "Ljava/util/List;"), (0, .fieldref 8 14), (0, .nameAndType 15 16), (0, u "ownFrom"), (0, u "I"), (8, u "()I"), (28, u "(Ljava/util/List;I)V"), (4, u "startsOwn"), (0, u "()Z"), (4, u "()Ljava/util/List;"), (4, .class_ 71), (0, u "com/example/treewright/treewright/schema/AugmentTarget")] 21

def k21c0 : Code := { maxStack := 2, maxLocals := 3, code := prog_18_method_1_code, exceptionTable := #[], attributes := #[] }
def k21m0 : Method := { name := "<init>", desc := "(Ljava/util/List;I)V", sig := { parameters := [(.object "java/util/List"), .int], returnType := none }, accessFlags := 0, code := some k21c0 }
def k21c1 : Code := { maxStack := 1, maxLocals := 1, code := prog_18_method_2_code, exceptionTable := #[], attributes := #[] }
def k21m1 : Method := { name := "startsOwn", desc := "()Z", sig := { parameters := [], returnType := some .boolean }, accessFlags := 0, code := some k21c1 }
def k21c2 : Code := { maxStack := 1, maxLocals := 1, code := prog_18_method_7_code, exceptionTable := #[], attributes := #[] }
def k21m2 : Method := { name := "steps", desc := "()Ljava/util/List;", sig := { parameters := [], returnType := some (.object "java/util/List") }, accessFlags := 1, code := some k21c2 }
def k21c3 : Code := { maxStack := 1, maxLocals := 1, code := prog_18_method_8_code, exceptionTable := #[], attributes := #[] }
def k21m3 : Method := { name := "ownFrom", desc := "()I", sig := { parameters := [], returnType := some .int }, accessFlags := 1, code := some k21c3 }
/-- com/example/treewright/treewright/schema/AugmentTarget$Path -/
def k21 : Class := { plain "com/example/treewright/treewright/schema/AugmentTarget$Path" (some 18) with
  accessFlags := 48
  interfaces := #[]
  cf := some (fileOf pool21 8 #[.nestHost 70] #[{ accessFlags := 0, nameIndex := 5, descriptorIndex := 54, attributes := #[] }, { accessFlags := 0, nameIndex := 59, descriptorIndex := 60, attributes := #[] }, { accessFlags := 1, nameIndex := 11, descriptorIndex := 65, attributes := #[] }, { accessFlags := 1, nameIndex := 15, descriptorIndex := 25, attributes := #[] }] 48 2 #[] #[{ accessFlags := 18, nameIndex := 11, descriptorIndex := 12, attributes := #[] }, { accessFlags := 18, nameIndex := 15, descriptorIndex := 16, attributes := #[] }])
  fields := #[{ name := "steps", type := (.object "java/util/List"), accessFlags := 18, slot := 0, constantValue := 0 }, { name := "ownFrom", type := .int, accessFlags := 18, slot := 1, constantValue := 0 }]
  methods := #[k21m0, k21m1, k21m2, k21m3]
  instanceTypes := #[(.object "java/util/List"), .int]
  staticTypes := #[]
  resolved := Array.replicate 93 none
  statics := none }

def pool22 : Array CpInfo := pool [(2, .class_ 4), (1, u "java/lang/Object"), (0, u "<init>"), (0, u "()V"), (17, .class_ 26), (1, u "jdk/internal/util/Preconditions"), (28, .class_ 56), (0, u "jdk/internal/util/Preconditions$4"), (57, .class_ 115), (0, u "jdk/internal/util/Preconditions$1"), (7, u "SIOOBE_FORMATTER"), (0, u "Ljava/util/function/BiFunction;"), (0, .class_ 126), (0, u "jdk/internal/util/Preconditions$2"), (3, u "AIOOBE_FORMATTER"), (0, .class_ 132), (0, u "jdk/internal/util/Preconditions$3"), (3, u "IOOBE_FORMATTER")] 57

def k22m0 : Method := { name := "<init>", desc := "()V", sig := { parameters := [], returnType := none }, accessFlags := 1, code := none }
/-- jdk/internal/util/Preconditions -/
def k22 : Class := { plain "jdk/internal/util/Preconditions" (some 0) with
  accessFlags := 33
  interfaces := #[]
  cf := some (fileOf pool22 24 #[.nestMembers #[55, 131, 125, 114]] #[{ accessFlags := 1, nameIndex := 5, descriptorIndex := 6, attributes := #[] }] 33 2 #[] #[{ accessFlags := 25, nameIndex := 123, descriptorIndex := 124, attributes := #[] }, { accessFlags := 25, nameIndex := 130, descriptorIndex := 124, attributes := #[] }, { accessFlags := 25, nameIndex := 136, descriptorIndex := 124, attributes := #[] }])
  fields := #[{ name := "SIOOBE_FORMATTER", type := (.object "java/util/function/BiFunction"), accessFlags := 25, slot := 0, constantValue := 0 }, { name := "AIOOBE_FORMATTER", type := (.object "java/util/function/BiFunction"), accessFlags := 25, slot := 1, constantValue := 0 }, { name := "IOOBE_FORMATTER", type := (.object "java/util/function/BiFunction"), accessFlags := 25, slot := 2, constantValue := 0 }]
  methods := #[k22m0]
  instanceTypes := #[]
  staticTypes := #[(.object "java/util/function/BiFunction"), (.object "java/util/function/BiFunction"), (.object "java/util/function/BiFunction")]
  resolved := Array.replicate 194 none
  statics := some 2 }

def pool23 : Array CpInfo := pool [(9, u "<init>"), (6, .class_ 18), (1, u "java/lang/Object"), (0, u "()V"), (1, .class_ 23), (1, u "jdk/internal/util/ArraysSupport"), (0, u "LOG2_ARRAY_LONG_INDEX_SCALE"), (0, u "I"), (2, u "U"), (0, u "Ljdk/internal/misc/Unsafe;"), (8, u "BIG_ENDIAN"), (0, u "Z"), (8, u "LOG2_BYTE_BIT_SIZE"), (4, u "LOG2_ARRAY_INT_INDEX_SCALE"), (54, u "JLA"), (0, u "Ljdk/internal/access/JavaLangAccess;"), (11, u "LOG2_ARRAY_BOOLEAN_INDEX_SCALE"), (9, u "LOG2_ARRAY_BYTE_INDEX_SCALE"), (5, u "LOG2_ARRAY_CHAR_INDEX_SCALE"), (5, u "LOG2_ARRAY_SHORT_INDEX_SCALE"), (18, u "LOG2_ARRAY_FLOAT_INDEX_SCALE"), (24, u "LOG2_ARRAY_DOUBLE_INDEX_SCALE"), (89, u "T_BOOLEAN"), (2, u "T_CHAR"), (1, u "T_FLOAT"), (1, u "T_DOUBLE"), (1, u "T_BYTE"), (1, u "T_SHORT"), (1, u "T_INT"), (1, u "T_LONG"), (1, u "SOFT_MAX_ARRAY_LENGTH")] 83

def k23m0 : Method := { name := "<init>", desc := "()V", sig := { parameters := [], returnType := none }, accessFlags := 2, code := none }
/-- jdk/internal/util/ArraysSupport -/
def k23 : Class := { plain "jdk/internal/util/ArraysSupport" (some 0) with
  accessFlags := 33
  interfaces := #[]
  cf := some (fileOf pool23 21 #[] #[{ accessFlags := 2, nameIndex := 9, descriptorIndex := 19, attributes := #[] }] 33 16 #[] #[{ accessFlags := 24, nameIndex := 28, descriptorIndex := 29, attributes := #[] }, { accessFlags := 26, nameIndex := 38, descriptorIndex := 39, attributes := #[] }, { accessFlags := 25, nameIndex := 121, descriptorIndex := 25, attributes := #[] }, { accessFlags := 25, nameIndex := 131, descriptorIndex := 25, attributes := #[] }, { accessFlags := 25, nameIndex := 137, descriptorIndex := 25, attributes := #[] }, { accessFlags := 25, nameIndex := 143, descriptorIndex := 25, attributes := #[] }, { accessFlags := 25, nameIndex := 53, descriptorIndex := 25, attributes := #[] }, { accessFlags := 25, nameIndex := 24, descriptorIndex := 25, attributes := #[] }, { accessFlags := 25, nameIndex := 162, descriptorIndex := 25, attributes := #[] }, { accessFlags := 25, nameIndex := 187, descriptorIndex := 25, attributes := #[] }, { accessFlags := 26, nameIndex := 48, descriptorIndex := 25, attributes := #[] }, { accessFlags := 25, nameIndex := 277, descriptorIndex := 25, attributes := #[] }, { accessFlags := 25, nameIndex := 280, descriptorIndex := 25, attributes := #[] }, { accessFlags := 25, nameIndex := 282, descriptorIndex := 25, attributes := #[] }, { accessFlags := 25, nameIndex := 284, descriptorIndex := 25, attributes := #[] }, { accessFlags := 25, nameIndex := 286, descriptorIndex := 25, attributes := #[] }, { accessFlags := 25, nameIndex := 288, descriptorIndex := 25, attributes := #[] }, { accessFlags := 25, nameIndex := 290, descriptorIndex := 25, attributes := #[] }, { accessFlags := 25, nameIndex := 292, descriptorIndex := 25, attributes := #[] }, { accessFlags := 26, nameIndex := 108, descriptorIndex := 109, attributes := #[] }, { accessFlags := 25, nameIndex := 294, descriptorIndex := 25, attributes := #[] }])
  fields := #[{ name := "U", type := (.object "jdk/internal/misc/Unsafe"), accessFlags := 24, slot := 0, constantValue := 0 }, { name := "BIG_ENDIAN", type := .boolean, accessFlags := 26, slot := 1, constantValue := 0 }, { name := "LOG2_ARRAY_BOOLEAN_INDEX_SCALE", type := .int, accessFlags := 25, slot := 2, constantValue := 0 }, { name := "LOG2_ARRAY_BYTE_INDEX_SCALE", type := .int, accessFlags := 25, slot := 3, constantValue := 0 }, { name := "LOG2_ARRAY_CHAR_INDEX_SCALE", type := .int, accessFlags := 25, slot := 4, constantValue := 0 }, { name := "LOG2_ARRAY_SHORT_INDEX_SCALE", type := .int, accessFlags := 25, slot := 5, constantValue := 0 }, { name := "LOG2_ARRAY_INT_INDEX_SCALE", type := .int, accessFlags := 25, slot := 6, constantValue := 0 }, { name := "LOG2_ARRAY_LONG_INDEX_SCALE", type := .int, accessFlags := 25, slot := 7, constantValue := 0 }, { name := "LOG2_ARRAY_FLOAT_INDEX_SCALE", type := .int, accessFlags := 25, slot := 8, constantValue := 0 }, { name := "LOG2_ARRAY_DOUBLE_INDEX_SCALE", type := .int, accessFlags := 25, slot := 9, constantValue := 0 }, { name := "LOG2_BYTE_BIT_SIZE", type := .int, accessFlags := 26, slot := 10, constantValue := 0 }, { name := "T_BOOLEAN", type := .int, accessFlags := 25, slot := 11, constantValue := 0 }, { name := "T_CHAR", type := .int, accessFlags := 25, slot := 12, constantValue := 0 }, { name := "T_FLOAT", type := .int, accessFlags := 25, slot := 13, constantValue := 0 }, { name := "T_DOUBLE", type := .int, accessFlags := 25, slot := 14, constantValue := 0 }, { name := "T_BYTE", type := .int, accessFlags := 25, slot := 15, constantValue := 0 }, { name := "T_SHORT", type := .int, accessFlags := 25, slot := 16, constantValue := 0 }, { name := "T_INT", type := .int, accessFlags := 25, slot := 17, constantValue := 0 }, { name := "T_LONG", type := .int, accessFlags := 25, slot := 18, constantValue := 0 }, { name := "JLA", type := (.object "jdk/internal/access/JavaLangAccess"), accessFlags := 26, slot := 19, constantValue := 0 }, { name := "SOFT_MAX_ARRAY_LENGTH", type := .int, accessFlags := 25, slot := 20, constantValue := 0 }]
  methods := #[k23m0]
  instanceTypes := #[]
  staticTypes := #[(.object "jdk/internal/misc/Unsafe"), .boolean, .int, .int, .int, .int, .int, .int, .int, .int, .int, .int, .int, .int, .int, .int, .int, .int, .int, (.object "jdk/internal/access/JavaLangAccess"), .int]
  resolved := Array.replicate 378 none
  statics := none }

/-- the primitive byte -/
def k24 : Class := { plain "byte" none with kind := .primitive 'B', accessFlags := 0x411 }
/-- [B -/
def k25 : Class := { plain "[B" (some 0) with kind := .array 24 .byte, interfaces := #[16, 2], accessFlags := 1041 }

/-- the primitive int -/
def k26 : Class := { plain "int" none with kind := .primitive 'I', accessFlags := 0x411 }
/-- [I -/
def k27 : Class := { plain "[I" (some 0) with kind := .array 26 .int, interfaces := #[16, 2], accessFlags := 1041 }

/-- [Ljava/lang/Object; -/
def k28 : Class := { plain "[Ljava/lang/Object;" (some 0) with kind := .array 0 (.object "java/lang/Object"), interfaces := #[16, 2], accessFlags := 1041 }

def heap : Heap := #[{ cls := 7, slots := #[.long 0, .int 1, .null, .int 0, .null, .int 0, .int 0], vm := .statics 7 },
  { cls := 17, slots := #[.long 0, .int 0, .ref 3, .ref 4], vm := .statics 17 },
  { cls := 22, slots := #[.null, .null, .null], vm := .statics 22 },
  { cls := 28, slots := #[], vm := .none },
  { cls := 28, slots := #[], vm := .none }]
def classes : Array Class := #[k0, k1, k2, k3, k4, k5, k6, k7, k8, k9, k10, k11, k12, k13, k14, k15, k16, k17, k18, k19, k20, k21, k22, k23, k24, k25, k26, k27, k28]
def interned : List (Array UInt16 × Addr) := []
def slotsUsed : Nat := 14
def theMethod : MethodId := ⟨1, 1⟩
def args0 : Array Value := #[.int 5, .int 3, .int 65]
def aboutOver (below : List Frame) : State where
  vm := { classes := classes, interned := interned.toArray }
  heap := heap
  slotsUsed := slotsUsed
  threads := #[{ frames := .invoking theMethod args0 :: below }]
def below0 : List Frame := [.native { method := ⟨0, 0⟩, args := #[] }]
def about1 : State := aboutOver below0
def p0 : Program := .bare "" "" ""
def e0 : Env := launch0.env 0 0 0
theorem w_frames : about1.frames = Frame.invoking theMethod args0 :: below0 := rfl
set_option maxRecDepth 65536 in
theorem w_args : argsFit about1.vm theMethod args0 = true := by decide +kernel
set_option maxRecDepth 65536 in
theorem w_heap : heapFits about1 = true := by decide +kernel
set_option maxRecDepth 65536 in
theorem w_runnable : about1.curStatus? = some .runnable := by decide +kernel
set_option maxRecDepth 65536 in
theorem w_alone : about1.alone = true := by decide +kernel
set_option maxRecDepth 65536 in
theorem w_named : about1.methodNamed? x = some theMethod := by decide +kernel
set_option maxRecDepth 65536 in
theorem w_hears : about1.hears theMethod below0 = true := by decide +kernel
set_option maxRecDepth 65536 in
theorem w_ripe : about1.ripe theMethod args0 below0 = true := by decide +kernel
theorem w_running : about1.status = .running := rfl
set_option maxRecDepth 65536 in
theorem w_room : about1.hasRoom e0.platform room_1 = true :=
  launch0.hasRoom_least _ room_1 (by decide +kernel) (by decide +kernel) (by decide +kernel) (by decide +kernel) (by decide +kernel) (by decide +kernel)
theorem allAtoms_all (ts : List Jvm.Cond) (a : Array Jvm.Value) (st : Jvm.State) : (allAtoms ts).before a st = ts.all (fun c => c.before a st) := by
  induction ts with
  | nil => rfl
  | cons c t ih =>
    show (Jvm.Cond.and c (allAtoms t)).before a st = _
    rw [Jvm.Cond.before_and, ih, List.all_cons]
def words1 : List Jvm.Cond := Jvm.Cond.code x code maxLocals ret :: tables_1
/-- a 'code' word, met by the world's own term for the bytes: nothing is compared byte by byte -/
theorem code_word {y : MethodName} {bytes : ByteArray} {mx : Nat} {rt : Option FieldType} {a : Array Value} {s : State} {m : MethodId} {meth : Method} {c : Code} (h1 : s.methodNamed? y = some m) (h2 : s.vm.method? m = some meth) (h3 : meth.code = some c) (h4 : c.code = bytes)
    (h5 : (c.maxLocals == mx && c.exceptionTable.isEmpty && decide (c.maxStack ≤ mostOperands) && decide (meth.sig.returnType = rt) && !meth.locks && decide (parseMethodDescriptor y.desc = some meth.sig)) = true) : (Jvm.Cond.code y bytes mx rt).before a s = true := by
  simp only [Bool.and_eq_true, beq_iff_eq, Bool.not_eq_true', decide_eq_true_eq] at h5
  obtain ⟨⟨⟨⟨⟨g1, g2⟩, g3⟩, g4⟩, g5⟩, g6⟩ := h5
  simp [Cond.before, Cond.holds, Cond.value, h1, h2, h3, h4, g1, g2, g3, g4, g5, g6]
def isCode : Jvm.Cond → Bool
  | .code _ _ _ _ => true
  | _ => false
theorem all_split {L : List Jvm.Cond} {P : Jvm.Cond → Bool} (h1 : L.all (fun c => isCode c || P c) = true) (h2 : ∀ c ∈ L.filter isCode, P c = true) : L.all P = true := by
  refine List.all_eq_true.mpr fun c hc => ?_
  have h := List.all_eq_true.mp h1 c hc
  rcases Bool.eq_false_or_eq_true (isCode c) with hi | hi
  · exact h2 c (List.mem_filter.mpr ⟨hc, hi⟩)
  · simpa [hi] using h
set_option maxRecDepth 65536 in
theorem w_c0 : (Jvm.Cond.code x code maxLocals ret).before args0 about1 = true := code_word (m := ⟨1, 1⟩) (meth := k1m1) (c := k1c1) (by decide +kernel) rfl rfl rfl (by decide +kernel)
set_option maxRecDepth 65536 in
theorem w_c1 : (Jvm.Cond.code ({ cls := "java/lang/String", name := "valueOf", desc := "(C)Ljava/lang/String;" } : Jvm.MethodName) jdk_42_method_139_code (1 : Nat) (Option.some (Jvm.ClassFile.FieldType.object "java/lang/String"))).before args0 about1 = true := code_word (m := ⟨7, 1⟩) (meth := k7m1) (c := k7c1) (by decide +kernel) rfl rfl rfl (by decide +kernel)
set_option maxRecDepth 65536 in
theorem w_c2 : (Jvm.Cond.code ({ cls := "java/lang/StringLatin1", name := "canEncode", desc := "(C)Z" } : Jvm.MethodName) jdk_43_method_3_code (1 : Nat) (Option.some Jvm.ClassFile.FieldType.boolean)).before args0 about1 = true := code_word (m := ⟨8, 1⟩) (meth := k8m1) (c := k8c1) (by decide +kernel) rfl rfl rfl (by decide +kernel)
set_option maxRecDepth 65536 in
theorem w_c3 : (Jvm.Cond.code ({ cls := "java/lang/StringLatin1", name := "toBytes", desc := "(C)[B" } : Jvm.MethodName) jdk_43_method_46_code (1 : Nat) (Option.some (Jvm.ClassFile.FieldType.array Jvm.ClassFile.FieldType.byte))).before args0 about1 = true := code_word (m := ⟨8, 2⟩) (meth := k8m2) (c := k8c2) (by decide +kernel) rfl rfl rfl (by decide +kernel)
set_option maxRecDepth 65536 in
theorem w_c4 : (Jvm.Cond.code ({ cls := "java/lang/String", name := "<init>", desc := "([BB)V" } : Jvm.MethodName) jdk_42_method_151_code (3 : Nat) (Option.none : Option Jvm.ClassFile.FieldType)).before args0 about1 = true := code_word (m := ⟨7, 2⟩) (meth := k7m2) (c := k7c2) (by decide +kernel) rfl rfl rfl (by decide +kernel)
set_option maxRecDepth 65536 in
theorem w_c5 : (Jvm.Cond.code ({ cls := "java/lang/Object", name := "<init>", desc := "()V" } : Jvm.MethodName) object_method_1_code (1 : Nat) (Option.none : Option Jvm.ClassFile.FieldType)).before args0 about1 = true := code_word (m := ⟨0, 0⟩) (meth := k0m0) (c := k0c0) (by decide +kernel) rfl rfl rfl (by decide +kernel)
set_option maxRecDepth 65536 in
theorem w_c6 : (Jvm.Cond.code ({ cls := "java/util/ArrayList", name := "<init>", desc := "()V" } : Jvm.MethodName) jdk_38_method_2_code (1 : Nat) (Option.none : Option Jvm.ClassFile.FieldType)).before args0 about1 = true := code_word (m := ⟨17, 0⟩) (meth := k17m0) (c := k17c0) (by decide +kernel) rfl rfl rfl (by decide +kernel)
set_option maxRecDepth 65536 in
theorem w_c7 : (Jvm.Cond.code ({ cls := "java/util/AbstractList", name := "<init>", desc := "()V" } : Jvm.MethodName) jdk_39_method_1_code (1 : Nat) (Option.none : Option Jvm.ClassFile.FieldType)).before args0 about1 = true := code_word (m := ⟨14, 0⟩) (meth := k14m0) (c := k14c0) (by decide +kernel) rfl rfl rfl (by decide +kernel)
set_option maxRecDepth 65536 in
theorem w_c8 : (Jvm.Cond.code ({ cls := "java/util/AbstractCollection", name := "<init>", desc := "()V" } : Jvm.MethodName) jdk_22_method_1_code (1 : Nat) (Option.none : Option Jvm.ClassFile.FieldType)).before args0 about1 = true := code_word (m := ⟨11, 0⟩) (meth := k11m0) (c := k11c0) (by decide +kernel) rfl rfl rfl (by decide +kernel)
set_option maxRecDepth 65536 in
theorem w_c9 : (Jvm.Cond.code ({ cls := "com/example/treewright/treewright/schema/AugmentTarget$Step", name := "<init>", desc := "(Ljava/lang/String;Ljava/lang/String;Ljava/lang/String;)V" } : Jvm.MethodName) prog_19_method_1_code (4 : Nat) (Option.none : Option Jvm.ClassFile.FieldType)).before args0 about1 = true := code_word (m := ⟨19, 0⟩) (meth := k19m0) (c := k19c0) (by decide +kernel) rfl rfl rfl (by decide +kernel)
set_option maxRecDepth 65536 in
theorem w_c10 : (Jvm.Cond.code ({ cls := "java/lang/Record", name := "<init>", desc := "()V" } : Jvm.MethodName) jdk_30_method_1_code (1 : Nat) (Option.none : Option Jvm.ClassFile.FieldType)).before args0 about1 = true := code_word (m := ⟨18, 0⟩) (meth := k18m0) (c := k18c0) (by decide +kernel) rfl rfl rfl (by decide +kernel)
set_option maxRecDepth 65536 in
theorem w_c11 : (Jvm.Cond.code ({ cls := "java/util/ArrayList", name := "add", desc := "(Ljava/lang/Object;)Z" } : Jvm.MethodName) jdk_38_method_25_code (2 : Nat) (Option.some Jvm.ClassFile.FieldType.boolean)).before args0 about1 = true := code_word (m := ⟨17, 5⟩) (meth := k17m5) (c := k17c5) (by decide +kernel) rfl rfl rfl (by decide +kernel)
set_option maxRecDepth 65536 in
theorem w_c12 : (Jvm.Cond.code ({ cls := "java/util/ArrayList", name := "add", desc := "(Ljava/lang/Object;[Ljava/lang/Object;I)V" } : Jvm.MethodName) jdk_38_method_24_code (4 : Nat) (Option.none : Option Jvm.ClassFile.FieldType)).before args0 about1 = true := code_word (m := ⟨17, 4⟩) (meth := k17m4) (c := k17c4) (by decide +kernel) rfl rfl rfl (by decide +kernel)
set_option maxRecDepth 65536 in
theorem w_c13 : (Jvm.Cond.code ({ cls := "java/util/ArrayList", name := "grow", desc := "()[Ljava/lang/Object;" } : Jvm.MethodName) jdk_38_method_7_code (1 : Nat) (Option.some (Jvm.ClassFile.FieldType.array (Jvm.ClassFile.FieldType.object "java/lang/Object")))).before args0 about1 = true := code_word (m := ⟨17, 2⟩) (meth := k17m2) (c := k17c2) (by decide +kernel) rfl rfl rfl (by decide +kernel)
set_option maxRecDepth 65536 in
theorem w_c14 : (Jvm.Cond.code ({ cls := "java/util/ArrayList", name := "grow", desc := "(I)[Ljava/lang/Object;" } : Jvm.MethodName) jdk_38_method_6_code (4 : Nat) (Option.some (Jvm.ClassFile.FieldType.array (Jvm.ClassFile.FieldType.object "java/lang/Object")))).before args0 about1 = true := code_word (m := ⟨17, 1⟩) (meth := k17m1) (c := k17c1) (by decide +kernel) rfl rfl rfl (by decide +kernel)
set_option maxRecDepth 65536 in
theorem w_c15 : (Jvm.Cond.code ({ cls := "java/lang/Math", name := "max", desc := "(II)I" } : Jvm.MethodName) jdk_29_method_65_code (2 : Nat) (Option.some Jvm.ClassFile.FieldType.int)).before args0 about1 = true := code_word (m := ⟨20, 1⟩) (meth := k20m1) (c := k20c1) (by decide +kernel) rfl rfl rfl (by decide +kernel)
set_option maxRecDepth 65536 in
theorem w_c16 : (Jvm.Cond.code ({ cls := "com/example/treewright/treewright/schema/AugmentTarget$Path", name := "<init>", desc := "(Ljava/util/List;I)V" } : Jvm.MethodName) prog_18_method_1_code (3 : Nat) (Option.none : Option Jvm.ClassFile.FieldType)).before args0 about1 = true := code_word (m := ⟨21, 0⟩) (meth := k21m0) (c := k21c0) (by decide +kernel) rfl rfl rfl (by decide +kernel)
set_option maxRecDepth 65536 in
theorem w_c17 : (Jvm.Cond.code ({ cls := "com/example/treewright/treewright/schema/AugmentTarget$Path", name := "startsOwn", desc := "()Z" } : Jvm.MethodName) prog_18_method_2_code (1 : Nat) (Option.some Jvm.ClassFile.FieldType.boolean)).before args0 about1 = true := code_word (m := ⟨21, 1⟩) (meth := k21m1) (c := k21c1) (by decide +kernel) rfl rfl rfl (by decide +kernel)
set_option maxRecDepth 65536 in
theorem w_c18 : (Jvm.Cond.code ({ cls := "com/example/treewright/treewright/schema/AugmentTarget$Path", name := "ownFrom", desc := "()I" } : Jvm.MethodName) prog_18_method_8_code (1 : Nat) (Option.some Jvm.ClassFile.FieldType.int)).before args0 about1 = true := code_word (m := ⟨21, 3⟩) (meth := k21m3) (c := k21c3) (by decide +kernel) rfl rfl rfl (by decide +kernel)
set_option maxRecDepth 65536 in
theorem w_c19 : (Jvm.Cond.code ({ cls := "com/example/treewright/treewright/schema/AugmentTarget$Path", name := "steps", desc := "()Ljava/util/List;" } : Jvm.MethodName) prog_18_method_7_code (1 : Nat) (Option.some (Jvm.ClassFile.FieldType.object "java/util/List"))).before args0 about1 = true := code_word (m := ⟨21, 2⟩) (meth := k21m2) (c := k21c2) (by decide +kernel) rfl rfl rfl (by decide +kernel)
set_option maxRecDepth 65536 in
theorem w_c20 : (Jvm.Cond.code ({ cls := "java/util/ArrayList", name := "size", desc := "()I" } : Jvm.MethodName) jdk_38_method_8_code (1 : Nat) (Option.some Jvm.ClassFile.FieldType.int)).before args0 about1 = true := code_word (m := ⟨17, 3⟩) (meth := k17m3) (c := k17c3) (by decide +kernel) rfl rfl rfl (by decide +kernel)
def codes1 : List Jvm.Cond := [Jvm.Cond.code x code maxLocals ret, Jvm.Cond.code ({ cls := "java/lang/String", name := "valueOf", desc := "(C)Ljava/lang/String;" } : Jvm.MethodName) jdk_42_method_139_code (1 : Nat) (Option.some (Jvm.ClassFile.FieldType.object "java/lang/String")), Jvm.Cond.code ({ cls := "java/lang/StringLatin1", name := "canEncode", desc := "(C)Z" } : Jvm.MethodName) jdk_43_method_3_code (1 : Nat) (Option.some Jvm.ClassFile.FieldType.boolean), Jvm.Cond.code ({ cls := "java/lang/StringLatin1", name := "toBytes", desc := "(C)[B" } : Jvm.MethodName) jdk_43_method_46_code (1 : Nat) (Option.some (Jvm.ClassFile.FieldType.array Jvm.ClassFile.FieldType.byte)), Jvm.Cond.code ({ cls := "java/lang/String", name := "<init>", desc := "([BB)V" } : Jvm.MethodName) jdk_42_method_151_code (3 : Nat) (Option.none : Option Jvm.ClassFile.FieldType), Jvm.Cond.code ({ cls := "java/lang/Object", name := "<init>", desc := "()V" } : Jvm.MethodName) object_method_1_code (1 : Nat) (Option.none : Option Jvm.ClassFile.FieldType), Jvm.Cond.code ({ cls := "java/util/ArrayList", name := "<init>", desc := "()V" } : Jvm.MethodName) jdk_38_method_2_code (1 : Nat) (Option.none : Option Jvm.ClassFile.FieldType), Jvm.Cond.code ({ cls := "java/util/AbstractList", name := "<init>", desc := "()V" } : Jvm.MethodName) jdk_39_method_1_code (1 : Nat) (Option.none : Option Jvm.ClassFile.FieldType), Jvm.Cond.code ({ cls := "java/util/AbstractCollection", name := "<init>", desc := "()V" } : Jvm.MethodName) jdk_22_method_1_code (1 : Nat) (Option.none : Option Jvm.ClassFile.FieldType), Jvm.Cond.code ({ cls := "com/example/treewright/treewright/schema/AugmentTarget$Step", name := "<init>", desc := "(Ljava/lang/String;Ljava/lang/String;Ljava/lang/String;)V" } : Jvm.MethodName) prog_19_method_1_code (4 : Nat) (Option.none : Option Jvm.ClassFile.FieldType), Jvm.Cond.code ({ cls := "java/lang/Record", name := "<init>", desc := "()V" } : Jvm.MethodName) jdk_30_method_1_code (1 : Nat) (Option.none : Option Jvm.ClassFile.FieldType), Jvm.Cond.code ({ cls := "java/util/ArrayList", name := "add", desc := "(Ljava/lang/Object;)Z" } : Jvm.MethodName) jdk_38_method_25_code (2 : Nat) (Option.some Jvm.ClassFile.FieldType.boolean), Jvm.Cond.code ({ cls := "java/util/ArrayList", name := "add", desc := "(Ljava/lang/Object;[Ljava/lang/Object;I)V" } : Jvm.MethodName) jdk_38_method_24_code (4 : Nat) (Option.none : Option Jvm.ClassFile.FieldType), Jvm.Cond.code ({ cls := "java/util/ArrayList", name := "grow", desc := "()[Ljava/lang/Object;" } : Jvm.MethodName) jdk_38_method_7_code (1 : Nat) (Option.some (Jvm.ClassFile.FieldType.array (Jvm.ClassFile.FieldType.object "java/lang/Object"))), Jvm.Cond.code ({ cls := "java/util/ArrayList", name := "grow", desc := "(I)[Ljava/lang/Object;" } : Jvm.MethodName) jdk_38_method_6_code (4 : Nat) (Option.some (Jvm.ClassFile.FieldType.array (Jvm.ClassFile.FieldType.object "java/lang/Object"))), Jvm.Cond.code ({ cls := "java/lang/Math", name := "max", desc := "(II)I" } : Jvm.MethodName) jdk_29_method_65_code (2 : Nat) (Option.some Jvm.ClassFile.FieldType.int), Jvm.Cond.code ({ cls := "com/example/treewright/treewright/schema/AugmentTarget$Path", name := "<init>", desc := "(Ljava/util/List;I)V" } : Jvm.MethodName) prog_18_method_1_code (3 : Nat) (Option.none : Option Jvm.ClassFile.FieldType), Jvm.Cond.code ({ cls := "com/example/treewright/treewright/schema/AugmentTarget$Path", name := "startsOwn", desc := "()Z" } : Jvm.MethodName) prog_18_method_2_code (1 : Nat) (Option.some Jvm.ClassFile.FieldType.boolean), Jvm.Cond.code ({ cls := "com/example/treewright/treewright/schema/AugmentTarget$Path", name := "ownFrom", desc := "()I" } : Jvm.MethodName) prog_18_method_8_code (1 : Nat) (Option.some Jvm.ClassFile.FieldType.int), Jvm.Cond.code ({ cls := "com/example/treewright/treewright/schema/AugmentTarget$Path", name := "steps", desc := "()Ljava/util/List;" } : Jvm.MethodName) prog_18_method_7_code (1 : Nat) (Option.some (Jvm.ClassFile.FieldType.object "java/util/List")), Jvm.Cond.code ({ cls := "java/util/ArrayList", name := "size", desc := "()I" } : Jvm.MethodName) jdk_38_method_8_code (1 : Nat) (Option.some Jvm.ClassFile.FieldType.int)]
set_option maxRecDepth 65536 in
theorem codes_eq : words1.filter isCode = codes1 := rfl
theorem w_codes : ∀ c ∈ words1.filter isCode, c.before args0 about1 = true := by
  rw [codes_eq]
  intro c hc
  simp only [codes1, List.mem_cons, List.not_mem_nil, or_false] at hc
  rcases hc with rfl | rfl | rfl | rfl | rfl | rfl | rfl | rfl | rfl | rfl | rfl | rfl | rfl | rfl | rfl | rfl | rfl | rfl | rfl | rfl | rfl
  · exact w_c0
  · exact w_c1
  · exact w_c2
  · exact w_c3
  · exact w_c4
  · exact w_c5
  · exact w_c6
  · exact w_c7
  · exact w_c8
  · exact w_c9
  · exact w_c10
  · exact w_c11
  · exact w_c12
  · exact w_c13
  · exact w_c14
  · exact w_c15
  · exact w_c16
  · exact w_c17
  · exact w_c18
  · exact w_c19
  · exact w_c20
set_option maxRecDepth 65536 in
theorem w_t1 : (words1.take 24).all (fun c => isCode c || c.before args0 about1) = true := by decide +kernel
set_option maxRecDepth 65536 in
theorem w_t2 : ((words1.drop 24).take 24).all (fun c => isCode c || c.before args0 about1) = true := by decide +kernel
set_option maxRecDepth 65536 in
theorem w_t3 : (((words1.drop 24).drop 24).take 24).all (fun c => isCode c || c.before args0 about1) = true := by decide +kernel
set_option maxRecDepth 65536 in
theorem w_t4 : ((((words1.drop 24).drop 24).drop 24).take 24).all (fun c => isCode c || c.before args0 about1) = true := by decide +kernel
set_option maxRecDepth 65536 in
theorem w_t5 : (((((words1.drop 24).drop 24).drop 24).drop 24).take 24).all (fun c => isCode c || c.before args0 about1) = true := by decide +kernel
set_option maxRecDepth 65536 in
theorem w_t6 : (((((words1.drop 24).drop 24).drop 24).drop 24).drop 24).all (fun c => isCode c || c.before args0 about1) = true := by decide +kernel
theorem w_tables : (allAtoms (Jvm.Cond.code x code maxLocals ret :: tables_1)).before args0 about1 = true := by
  rw [allAtoms_all]
  show words1.all (fun c => c.before args0 about1) = true
  refine all_split ?_ w_codes
  rw [← List.take_append_drop 24 words1, List.all_append, w_t1, ← List.take_append_drop 24 (words1.drop 24), List.all_append, w_t2, ← List.take_append_drop 24 ((words1.drop 24).drop 24), List.all_append, w_t3, ← List.take_append_drop 24 (((words1.drop 24).drop 24).drop 24), List.all_append, w_t4, ← List.take_append_drop 24 ((((words1.drop 24).drop 24).drop 24).drop 24), List.all_append, w_t5, w_t6]
  rfl
set_option maxRecDepth 65536 in
theorem w_rest : rest_1_c.before args0 about1 = true := by decide +kernel
set_option maxRecDepth 65536 in
theorem w_case : (Jvm.Cond.and given_1 narrow_1).before args0 about1 = true := by decide +kernel
theorem w_applies : (headSpec (Jvm.Cond.code x code maxLocals ret :: tables_1) room_1).applies x e0.platform about1 = true :=
  (Spec.applies_iff w_frames).mpr ⟨w_running, w_runnable, w_alone, w_named, w_hears, w_ripe, w_room, w_tables⟩
theorem atStart : AtStart classFile x code maxLocals ret World_1 tables_1 room_1 Calls_1 rest_1 Pre_1 launch0 p0 e0 about1 theMethod args0 below0 :=
  ⟨lists_1, trivial, launch0.admits_env _ _ _, launch0.least_env, fairChoices_fair.cas, fairChoices_fair.clock, w_frames, w_args, w_heap, w_applies, trivial, w_rest, w_case⟩
end start1
theorem witness_1 : WitnessClaimed_1 := ⟨start1.p0, start1.e0, start1.about1, start1.theMethod, start1.args0, start1.below0, start1.atStart⟩
end Jvm.Pilot.@@N@@
