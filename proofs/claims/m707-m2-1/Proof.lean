import JvmDerived
import JvmDerived.Pilot.@@N@@Statement
import JvmDerived.Pilot.@@N@@Code
set_option linter.unusedVariables false
set_option linter.unusedSimpArgs false
namespace Jvm.RoadKit
open Sem ClassFile Op Lib Jvm.Stand Jvm.Free Jvm.LawKit
section New
variable {p : Program} {l : Launch} {e : Env} {R : Room} {s : State} {m : MethodId} {args : Array Value} {below : List Frame} {meth : Method} {c : Code} {T : State} {locs : List Loc} {cells slots : Nat}
theorem retI (X : Stand p l e R s m args below meth c T locs cells slots) (hx : p.tables.exec = Jvm.exec) {pc : Nat} {Ls : Array Slot} {z : Int32} {rest : List Value} (hret : meth.sig.returnType = some .int) (hd : decode c.code pc = .ok (.ireturn, 1)) {fs : List Frame}
    (hl : ∀ (f : JFrame) (acts : List Action), f.method = m → f.locked = none → f.entered = [] → (doReturn e (T.setTop f) acts (some (.int z))).1 = T.setFrames fs) : Steps p.tables e below (T.setTop (mkF m pc Ls (.int z :: rest))) (T.setFrames fs) := by
  have hm' : T.vm.method? m = some meth := X.method'
  have hn : narrow .int (.int z) = .int z := rfl
  show Steps p.tables e below (T.setTop { method := m, pc := pc, locals := Ls, stack := _ :: rest, locked := none }) _
  jvm_step X.here [X.here.top, hx, hd, hm', hret, hn]
  first | (intro acts; rw [hl _ acts rfl rfl rfl]) | rw [hl _ _ rfl rfl rfl]
  exact Steps.refl _
end New
end Jvm.RoadKit
namespace Jvm.Pilot.@@N@@
open Jvm Jvm.ClassFile Sem Op Lib Jvm.Free Jvm.Stand Jvm.LawKit Jvm.RoadKit Bundle Jvm.Pilot.@@N@@.Jvm.D
def Wp (p : Program) (e : Env) (below : List Frame) (G : Outcome → State → Prop) (U : State) : Prop := ∃ s₂ o, Steps p.tables e below U s₂ ∧ s₂.status = .running ∧ Ended s₂ below o ∧ G o s₂
theorem Wp.back {p : Program} {e : Env} {below : List Frame} {G : Outcome → State → Prop} {U U' : State} (k : ∀ t, Steps p.tables e below U' t → Steps p.tables e below U t) (h : Wp p e below G U') : Wp p e below G U := by
  obtain ⟨s₂, o, h1, h2⟩ := h
  exact ⟨s₂, o, k _ h1, h2⟩
theorem Wp.done {p : Program} {e : Env} {below : List Frame} {G : Outcome → State → Prop} {U t : State} {o : Outcome} (h1 : Steps p.tables e below U t) (h2 : t.status = .running) (h3 : Ended t below o) (h4 : G o t) : Wp p e below G U := ⟨t, o, h1, h2, h3, h4⟩
/-- what a body leaves that writes nothing -/
def QL (n0 : Nat) (v : Option Value) (h : Heap) (L : List Loc) : Prop := v = some (.int 1) ∧ Fr n0 L
def QP (r : Option Value) (h0 : Heap) (n0 : Nat) (v : Option Value) (h : Heap) (L : List Loc) : Prop := v = r ∧ Fr n0 L ∧ h = h0
theorem own_irrefl (x : Int32) : ¬ x < x := by rw [Int32.lt_iff_toInt_lt]; omega
theorem Sta_keep0 {Z : State} {h h' : Heap} {C n d : String} {v : Value} (F : Sta Z h C n d v) (K : Keep h h' []) : Sta Z h' C n d v := by
  obtain ⟨cf, i, k, f, st, cell, h1, h2, h3, h4, h5, r⟩ := F
  exact ⟨cf, i, k, f, st, cell, h1, h2, h3, h4, K.2.1 _ _ h5 nin0, r⟩
def f_by (q0 : Int64) : Int64 := ((8 : Int64) + (q0 * (24 : Int64)))
theorem d1_0 : decode prog_10_method_2_code 0 = .ok (.getstatic 15, 3) := by decide +kernel
theorem d1_3 : decode prog_10_method_2_code 3 = .ok (.arraylength, 1) := by decide +kernel
theorem d1_4 : decode prog_10_method_2_code 4 = .ok (.i2l, 1) := by decide +kernel
theorem d1_5 : decode prog_10_method_2_code 5 = .ok (.lload_n 0, 1) := by decide +kernel
theorem d1_6 : decode prog_10_method_2_code 6 = .ok (.ldc2_w 19, 3) := by decide +kernel
theorem d1_9 : decode prog_10_method_2_code 9 = .ok (.lmul, 1) := by decide +kernel
theorem d1_10 : decode prog_10_method_2_code 10 = .ok (.ladd, 1) := by decide +kernel
theorem d1_11 : decode prog_10_method_2_code 11 = .ok (.lreturn, 1) := by decide +kernel
theorem pn1 : plainName "com/example/known_leaks/knownleaks/ExactStore" = true := by first | (simp [plainName, overriddenIn]; done) | decide +kernel
theorem ef1 (m : MethodId) (x0 : Int64) : entryFrame m #[(.long x0)] 2 = mkF m 0 #[.val (.long x0), .second] [] := by first | (simp [entryFrame, mkF, argsToLocals, Value.category]; done) | rfl
set_option maxRecDepth 65536 in
set_option maxHeartbeats 40000000 in
theorem rm_f_by (l : Launch) (Z : State) (a0 : Array Value) (hw : ∀ d ∈ tables_1, d.before a0 Z = true) (ws : List Jvm.Cond) (q0 : Int64) (am : Addr) (cm : Cell) (h0 : Heap) (n0 : Nat) (Z0 : n0 ≤ h0.size) (S0 : Sta Z h0 "com/example/known_leaks/knownleaks/ExactStore" "MAGIC" "[B" (.ref am)) (A0 : Arr Z h0 am cm .byte) (q8 : cm.slots.size = (8 : Int32).toNatClampNeg) :
    MetFree l (⟨"com/example/known_leaks/knownleaks/ExactStore", "bytes", "(J)J"⟩ : MethodName) (head1 (Jvm.Cond.code (⟨"com/example/known_leaks/knownleaks/ExactStore", "bytes", "(J)J"⟩ : MethodName) prog_10_method_2_code 2 (some .long) :: ws) ({ frames := 0, cells := 0, slots := 0, locals := 0 } : Room)) (fun a U => a = #[(.long q0)] ∧ Z.Warmed39 U.vm ∧ U.heap = h0) (fun _ _ _ _ _ => True) (fun _ U o U' => ∃ v L, o = .returned v ∧ QP (some (.long (f_by q0))) h0 n0 v U'.heap L ∧ FrameEnd U o U' L ({ frames := 0, cells := 0, slots := 0, locals := 0 } : Room).cells ({ frames := 0, cells := 0, slots := 0, locals := 0 } : Room).slots) := by
  refine MetFree.of_bodySF (plainFor_of_name pn1) hisR ?_
  intro p e s m args below meth c s₁ Bd hml0 hP hK
  obtain ⟨rfl, hZ, hh⟩ := hP
  have hx := Bd.exec
  have hby := Bd.bytes
  have hret := Bd.returns
  have hlk := Bd.notSynchronized
  have hml : c.maxLocals = 2 := hml0
  have hown : s.vm.findClass "com/example/known_leaks/knownleaks/ExactStore" = some m.cls := findClass_of_methodNamed Bd.named
  have hnm := (name_of_methodNamed Bd.named Bd.method).1
  have X0 : Stand p l e ({ frames := 0, cells := 0, slots := 0, locals := 0 } : Room) s m #[(.long q0)] below meth c s₁ [] 0 0 := Stand.of_body Bd
  have e0 : s₁.heap = h0 := by rw [← hh, Bd.state]; rfl
  have N0 := Fr.nil n0
  show Wp p e below (fun o s₂ => ∃ v L, o = .returned v ∧ QP (some (.long (f_by q0))) h0 n0 v s₂.heap L ∧ FrameEnd s o s₂ L ({ frames := 0, cells := 0, slots := 0, locals := 0 } : Room).cells ({ frames := 0, cells := 0, slots := 0, locals := 0 } : Room).slots) _
  refine Wp.back (U' := (s₁.setTop (mkF m 0 #[.val (.long q0), .second] []))) (fun t k => castTop (ef1 m q0) k) ?_
  obtain ⟨T1, X1, e1, st1⟩ := getS2 X0 hx hZ hown (host := "") (Or.inl (hw _ (List.mem_of_getElem? (i := 4) rfl))) Via.refl e0 S0 (g := (mkF m 0 #[.val (.long q0), .second] [])) rfl (hb hby d1_0)
  refine Wp.back (U' := (T1.setTop (mkF m 3 #[.val (.long q0), .second] [(.ref am)]))) st1 ?_
  refine Wp.back (U' := (T1.setTop (mkF m 4 #[.val (.long q0), .second] [(.int (8 : Int32))]))) (fun t k => X1.arraylength hx (by rw [e1]; exact A0.1) (State.isArrayOf_alike hZ.alike A0.2.1) (g := (mkF m 3 #[.val (.long q0), .second] [(.ref am)])) rfl rfl (hb hby d1_3) t (by rw [len_of q8 (by decide)]; exact k)) ?_
  refine Wp.back (U' := (T1.setTop (mkF m 11 #[.val (.long q0), .second] [(.long ((8 : Int64) + (q0 * (24 : Int64))))]))) (fun t k => XS.i2l X1.here hx rfl (hb hby d1_4) rfl (XS.lloadN X1.here hx rfl (hb hby d1_5) rfl (Jvm.Stand.ldc2J X1 hx hown (mvT hZ (hw _ (List.mem_of_getElem? (i := 6) rfl))) rfl (hb hby d1_6) (XS.lmul X1.here hx rfl (hb hby d1_9) rfl (XS.ladd X1.here hx rfl (hb hby d1_10) rfl k))))) ?_
  obtain ⟨fs, hr, hrun, hended, hW, hsame⟩ := X1.leave (v := (some (.long ((8 : Int64) + (q0 * (24 : Int64)))))) (fun h => by rw [hret] at h; cases h)
  refine Wp.done (retOut X1 hx hret rfl (Or.inr (Or.inl ⟨rfl, rfl, _, rfl⟩)) (hb hby d1_11) hr) hrun hended ⟨_, _, rfl, ?_, ⟨_, rfl⟩, hW, hsame.mono (by decide) (by decide)⟩
  show QP _ h0 n0 _ T1.heap _
  exact ⟨rfl, N0, e1⟩
theorem own_e8 : ((8 : Int32)).toInt64 = (8 : Int64) := by decide
theorem own_1 (e : Int64) : f_by e = ((8 : Int64) + ((20 : Int64) * e)) + ((4 : Int64) * e) := by
  unfold f_by
  rw [Int64.add_assoc, ← Int64.add_mul, Int64.mul_comm e]
  rfl
theorem own_2 : f_by (0 : Int64) = (8 : Int64) := by decide +kernel
theorem own_3 (e f : Int64) : (f_by e + f_by f) = (f_by (e + f) + f_by (0 : Int64)) := by
  rw [own_2]
  unfold f_by
  rw [Int64.add_mul]
  generalize e * (24 : Int64) = a
  generalize f * (24 : Int64) = b
  rw [Int64.add_assoc, Int64.add_assoc, Int64.add_comm (a + b) 8, ← Int64.add_assoc a, Int64.add_comm a 8, Int64.add_assoc]
theorem own_len {s : State} {args : Array Value} {t : Term} {a : Addr} {cl : Cell} {n : Int32} (A : Arr s s.heap a cl .byte) (ev : t.eval args s none [] s = some (.ref a)) (hl : (Cond.eq (.length t) (.int n)).value args s none s [] = some true) (hn : ¬ n < 0) : cl.slots.size = n.toNatClampNeg := by
  have ha : s.arrayAt? a = some cl := Arr.fin (Vm.Alike.refl _) A
  by_cases h : cl.slots.size < 2 ^ 31
  · have e1 := len_f (o := none) (first := s) (idx := []) (args := args) ev ha h
    have e2 : (Term.int n).eval args s none [] s = some (.int n) := rfl
    have q := gotT (Cond.eq_ints e1 e2) hl
    have h2 := len_toInt h
    rw [q, nat_of hn] at h2
    omega
  · exfalso
    simp [Cond.value, Term.eval, ev, ha, h] at hl
theorem pd0_0 : parseMethodDescriptor "(J)J" = some ⟨[.long], some .long⟩ := by decide +kernel
theorem pn0 : plainName "com/example/known_leaks/knownleaks/ExactStoreBytesPinLaw" = true := by first | (simp [plainName, overriddenIn]; done) | decide +kernel
theorem ef0 (m : MethodId) (x0 : Int64) (x1 : Int64) : entryFrame m #[(.long x0), (.long x1)] maxLocals = mkF m 0 #[.val (.long x0), .second, .val (.long x1), .second, .unset, .unset, .unset, .unset, .unset, .unset, .unset, .unset, .unset, .unset, .unset, .unset, .unset, .unset] [] := by first | (simp [entryFrame, mkF, argsToLocals, Value.category, maxLocals]; done) | rfl
set_option maxRecDepth 65536 in
set_option maxHeartbeats 40000000 in
theorem rm_law (l : Launch) (Z : State) (a0 : Array Value) (hw : ∀ d ∈ tables_1, d.before a0 Z = true) (ws : List Jvm.Cond) (q0 : Int64) (q1 : Int64) (am : Addr) (cm : Cell) (h0 : Heap) (n0 : Nat) (Z0 : n0 ≤ h0.size) (S0 : Sta Z h0 "com/example/known_leaks/knownleaks/ExactStore" "MAGIC" "[B" (.ref am)) (A0 : Arr Z h0 am cm .byte) (q8 : cm.slots.size = (8 : Int32).toNatClampNeg) :
    MetFree l x (head1 (Jvm.Cond.code x code maxLocals ret :: ws) room_1) (fun a U => a = #[(.long q0), (.long q1)] ∧ Z.Warmed39 U.vm ∧ U.heap = h0) (fun _ _ _ _ _ => True) (fun _ U o U' => ∃ v L, o = .returned v ∧ QL n0 v U'.heap L ∧ FrameEnd U o U' L 0 0) := by
  refine MetFree.of_bodySF (plainFor_of_name pn0) hisR ?_
  intro p e s m args below meth c s₁ Bd hml0 hP hK
  obtain ⟨rfl, hZ, hh⟩ := hP
  have hx := Bd.exec
  have hby := Bd.bytes
  have hret := Bd.returns
  have hlk := Bd.notSynchronized
  have hml : c.maxLocals = 18 := hml0
  have hown : s.vm.findClass "com/example/known_leaks/knownleaks/ExactStoreBytesPinLaw" = some m.cls := findClass_of_methodNamed Bd.named
  have hnm := (name_of_methodNamed Bd.named Bd.method).1
  have X0 : Stand p l e room_1 s m #[(.long q0), (.long q1)] below meth c s₁ [] 0 0 := Stand.of_body Bd
  have e0 : s₁.heap = h0 := by rw [← hh, Bd.state]; rfl
  have N0 := Fr.nil n0
  show Wp p e below (fun o s₂ => ∃ v L, o = .returned v ∧ QL n0 v s₂.heap L ∧ FrameEnd s o s₂ L 0 0) _
  refine Wp.back (U' := (s₁.setTop (mkF m 0 #[.val (.long q0), .second, .val (.long q1), .second, .unset, .unset, .unset, .unset, .unset, .unset, .unset, .unset, .unset, .unset, .unset, .unset, .unset, .unset] []))) (fun t k => castTop (ef0 m q0 q1) k) ?_
  refine Wp.back (U' := (s₁.setTop (mkF m 1 #[.val (.long q0), .second, .val (.long q1), .second, .unset, .unset, .unset, .unset, .unset, .unset, .unset, .unset, .unset, .unset, .unset, .unset, .unset, .unset] [(.long q0)]))) (fun t k => XS.lloadN X0.here hx rfl (hb hby at_0) rfl k) ?_
  obtain ⟨_, _, ⟨T1, L1, k1, n1⟩, -, X1, ⟨Lc1, hQ1, l1, y1, z1⟩, st1⟩ := Jvm.LawKit.callS X0 hx (y := (⟨"com/example/known_leaks/knownleaks/ExactStore", "bytes", "(J)J"⟩ : MethodName)) hown (mvT hZ (hw _ (List.mem_of_getElem? (i := 0) rfl))) (mvT hZ (hw _ (List.mem_of_getElem? (i := 1) rfl))) (mvT hZ (hw _ (List.mem_of_getElem? (i := 2) rfl))) (mvT hZ (hw _ (List.mem_of_getElem? (i := 3) rfl))) (by decide) (backOf (W := 0) (rm_f_by l Z a0 hw [] q0 am cm h0 n0 Z0 S0 A0 q8) hZ (hw _ (List.mem_of_getElem? (i := 3) rfl)) (hw _ (List.mem_of_getElem? (i := 2) rfl)) (by decide) (by decide)) (g := (mkF m 1 #[.val (.long q0), .second, .val (.long q1), .second, .unset, .unset, .unset, .unset, .unset, .unset, .unset, .unset, .unset, .unset, .unset, .unset, .unset, .unset] [(.long q0)])) rfl (by rw [hml]; rfl) (argsL := [(.long q0)]) (rest := []) (lenOf pd0_0 rfl) rfl (by show 2 * 0 + _ ≤ _; exact Nat.le_of_eq rfl) (hb hby at_1) (fun _ _ => ⟨rfl, e0, (by decide : 0 + 0 ≤ _), (by decide : 0 + 0 ≤ _)⟩)
  dsimp only [Pt.U, Pt.locs, Pt.cells, Pt.slots] at X1 l1 y1 z1 st1 hQ1
  subst l1 y1 z1
  obtain ⟨rfl, N1q, e1⟩ := hQ1
  have N1 := Fr.app N0 N1q
  refine Wp.back (U' := (T1.setTop (mkF m 4 #[.val (.long q0), .second, .val (.long q1), .second, .unset, .unset, .unset, .unset, .unset, .unset, .unset, .unset, .unset, .unset, .unset, .unset, .unset, .unset] [(.long (f_by q0))]))) st1 ?_
  refine Wp.back (U' := (T1.setTop (mkF m 7 #[.val (.long q0), .second, .val (.long q1), .second, .val (.long (f_by q0)), .second, .unset, .unset, .unset, .unset, .unset, .unset, .unset, .unset, .unset, .unset, .unset, .unset] [(.long q1)]))) (fun t k => XS.lstore X1.here hx rfl (hb hby at_4) rfl (l' := #[.val (.long q0), .second, .val (.long q1), .second, .val (.long (f_by q0)), .second, .unset, .unset, .unset, .unset, .unset, .unset, .unset, .unset, .unset, .unset, .unset, .unset]) rfl (XS.lloadN X1.here hx rfl (hb hby at_6) rfl k)) ?_
  obtain ⟨_, _, ⟨T2, L2, k2, n2⟩, -, X2, ⟨Lc2, hQ2, l2, y2, z2⟩, st2⟩ := Jvm.LawKit.callS X1 hx (y := (⟨"com/example/known_leaks/knownleaks/ExactStore", "bytes", "(J)J"⟩ : MethodName)) hown (mvT hZ (hw _ (List.mem_of_getElem? (i := 0) rfl))) (mvT hZ (hw _ (List.mem_of_getElem? (i := 1) rfl))) (mvT hZ (hw _ (List.mem_of_getElem? (i := 2) rfl))) (mvT hZ (hw _ (List.mem_of_getElem? (i := 3) rfl))) (by decide) (backOf (W := 0) (rm_f_by l Z a0 hw [] q1 am cm h0 n0 Z0 S0 A0 q8) hZ (hw _ (List.mem_of_getElem? (i := 3) rfl)) (hw _ (List.mem_of_getElem? (i := 2) rfl)) (by decide) (by decide)) (g := (mkF m 7 #[.val (.long q0), .second, .val (.long q1), .second, .val (.long (f_by q0)), .second, .unset, .unset, .unset, .unset, .unset, .unset, .unset, .unset, .unset, .unset, .unset, .unset] [(.long q1)])) rfl (by rw [hml]; rfl) (argsL := [(.long q1)]) (rest := []) (lenOf pd0_0 rfl) rfl (by show 2 * 0 + _ ≤ _; exact Nat.le_of_eq rfl) (hb hby at_7) (fun _ _ => ⟨rfl, e1, (by decide : 0 + 0 ≤ _), (by decide : 0 + 0 ≤ _)⟩)
  dsimp only [Pt.U, Pt.locs, Pt.cells, Pt.slots] at X2 l2 y2 z2 st2 hQ2
  subst l2 y2 z2
  obtain ⟨rfl, N2q, e2⟩ := hQ2
  have N2 := Fr.app N1 N2q
  refine Wp.back (U' := (T2.setTop (mkF m 10 #[.val (.long q0), .second, .val (.long q1), .second, .val (.long (f_by q0)), .second, .unset, .unset, .unset, .unset, .unset, .unset, .unset, .unset, .unset, .unset, .unset, .unset] [(.long (f_by q1))]))) st2 ?_
  refine Wp.back (U' := (T2.setTop (mkF m 15 #[.val (.long q0), .second, .val (.long q1), .second, .val (.long (f_by q0)), .second, .val (.long (f_by q1)), .second, .unset, .unset, .unset, .unset, .unset, .unset, .unset, .unset, .unset, .unset] [(.long (q0 + q1))]))) (fun t k => XS.lstore X2.here hx rfl (hb hby at_10) rfl (l' := #[.val (.long q0), .second, .val (.long q1), .second, .val (.long (f_by q0)), .second, .val (.long (f_by q1)), .second, .unset, .unset, .unset, .unset, .unset, .unset, .unset, .unset, .unset, .unset]) rfl (XS.lloadN X2.here hx rfl (hb hby at_12) rfl (XS.lloadN X2.here hx rfl (hb hby at_13) rfl (XS.ladd X2.here hx rfl (hb hby at_14) rfl k)))) ?_
  obtain ⟨_, _, ⟨T3, L3, k3, n3⟩, -, X3, ⟨Lc3, hQ3, l3, y3, z3⟩, st3⟩ := Jvm.LawKit.callS X2 hx (y := (⟨"com/example/known_leaks/knownleaks/ExactStore", "bytes", "(J)J"⟩ : MethodName)) hown (mvT hZ (hw _ (List.mem_of_getElem? (i := 0) rfl))) (mvT hZ (hw _ (List.mem_of_getElem? (i := 1) rfl))) (mvT hZ (hw _ (List.mem_of_getElem? (i := 2) rfl))) (mvT hZ (hw _ (List.mem_of_getElem? (i := 3) rfl))) (by decide) (backOf (W := 0) (rm_f_by l Z a0 hw [] (q0 + q1) am cm h0 n0 Z0 S0 A0 q8) hZ (hw _ (List.mem_of_getElem? (i := 3) rfl)) (hw _ (List.mem_of_getElem? (i := 2) rfl)) (by decide) (by decide)) (g := (mkF m 15 #[.val (.long q0), .second, .val (.long q1), .second, .val (.long (f_by q0)), .second, .val (.long (f_by q1)), .second, .unset, .unset, .unset, .unset, .unset, .unset, .unset, .unset, .unset, .unset] [(.long (q0 + q1))])) rfl (by rw [hml]; rfl) (argsL := [(.long (q0 + q1))]) (rest := []) (lenOf pd0_0 rfl) rfl (by show 2 * 0 + _ ≤ _; exact Nat.le_of_eq rfl) (hb hby at_15) (fun _ _ => ⟨rfl, e2, (by decide : 0 + 0 ≤ _), (by decide : 0 + 0 ≤ _)⟩)
  dsimp only [Pt.U, Pt.locs, Pt.cells, Pt.slots] at X3 l3 y3 z3 st3 hQ3
  subst l3 y3 z3
  obtain ⟨rfl, N3q, e3⟩ := hQ3
  have N3 := Fr.app N2 N3q
  refine Wp.back (U' := (T3.setTop (mkF m 18 #[.val (.long q0), .second, .val (.long q1), .second, .val (.long (f_by q0)), .second, .val (.long (f_by q1)), .second, .unset, .unset, .unset, .unset, .unset, .unset, .unset, .unset, .unset, .unset] [(.long (f_by (q0 + q1)))]))) st3 ?_
  refine Wp.back (U' := (T3.setTop (mkF m 21 #[.val (.long q0), .second, .val (.long q1), .second, .val (.long (f_by q0)), .second, .val (.long (f_by q1)), .second, .val (.long (f_by (q0 + q1))), .second, .unset, .unset, .unset, .unset, .unset, .unset, .unset, .unset] [(.long (0 : Int64))]))) (fun t k => XS.lstore X3.here hx rfl (hb hby at_18) rfl (l' := #[.val (.long q0), .second, .val (.long q1), .second, .val (.long (f_by q0)), .second, .val (.long (f_by q1)), .second, .val (.long (f_by (q0 + q1))), .second, .unset, .unset, .unset, .unset, .unset, .unset, .unset, .unset]) rfl (XT.lconstV X3.here hx rfl (0 : Int64) (hb hby at_20) (by decide) k)) ?_
  obtain ⟨_, _, ⟨T4, L4, k4, n4⟩, -, X4, ⟨Lc4, hQ4, l4, y4, z4⟩, st4⟩ := Jvm.LawKit.callS X3 hx (y := (⟨"com/example/known_leaks/knownleaks/ExactStore", "bytes", "(J)J"⟩ : MethodName)) hown (mvT hZ (hw _ (List.mem_of_getElem? (i := 0) rfl))) (mvT hZ (hw _ (List.mem_of_getElem? (i := 1) rfl))) (mvT hZ (hw _ (List.mem_of_getElem? (i := 2) rfl))) (mvT hZ (hw _ (List.mem_of_getElem? (i := 3) rfl))) (by decide) (backOf (W := 0) (rm_f_by l Z a0 hw [] (0 : Int64) am cm h0 n0 Z0 S0 A0 q8) hZ (hw _ (List.mem_of_getElem? (i := 3) rfl)) (hw _ (List.mem_of_getElem? (i := 2) rfl)) (by decide) (by decide)) (g := (mkF m 21 #[.val (.long q0), .second, .val (.long q1), .second, .val (.long (f_by q0)), .second, .val (.long (f_by q1)), .second, .val (.long (f_by (q0 + q1))), .second, .unset, .unset, .unset, .unset, .unset, .unset, .unset, .unset] [(.long (0 : Int64))])) rfl (by rw [hml]; rfl) (argsL := [(.long (0 : Int64))]) (rest := []) (lenOf pd0_0 rfl) rfl (by show 2 * 0 + _ ≤ _; exact Nat.le_of_eq rfl) (hb hby at_21) (fun _ _ => ⟨rfl, e3, (by decide : 0 + 0 ≤ _), (by decide : 0 + 0 ≤ _)⟩)
  dsimp only [Pt.U, Pt.locs, Pt.cells, Pt.slots] at X4 l4 y4 z4 st4 hQ4
  subst l4 y4 z4
  obtain ⟨rfl, N4q, e4⟩ := hQ4
  have N4 := Fr.app N3 N4q
  refine Wp.back (U' := (T4.setTop (mkF m 24 #[.val (.long q0), .second, .val (.long q1), .second, .val (.long (f_by q0)), .second, .val (.long (f_by q1)), .second, .val (.long (f_by (q0 + q1))), .second, .unset, .unset, .unset, .unset, .unset, .unset, .unset, .unset] [(.long (f_by (0 : Int64)))]))) st4 ?_
  refine Wp.back (U' := (T4.setTop (mkF m 46 #[.val (.long q0), .second, .val (.long q1), .second, .val (.long (f_by q0)), .second, .val (.long (f_by q1)), .second, .val (.long (f_by (q0 + q1))), .second, .val (.long (f_by (0 : Int64))), .second, .val (.long (((8 : Int64) + ((20 : Int64) * q0)) + ((4 : Int64) * q0))), .second, .unset, .unset, .unset, .unset] [(.long (8 : Int64))]))) (fun t k => XS.lstore X4.here hx rfl (hb hby at_24) rfl (l' := #[.val (.long q0), .second, .val (.long q1), .second, .val (.long (f_by q0)), .second, .val (.long (f_by q1)), .second, .val (.long (f_by (q0 + q1))), .second, .val (.long (f_by (0 : Int64))), .second, .unset, .unset, .unset, .unset, .unset, .unset]) rfl (Jvm.Stand.ldc2J X4 hx hown (mvT hZ (hw _ (List.mem_of_getElem? (i := 7) rfl))) rfl (hb hby at_26) (Jvm.Stand.ldc2J X4 hx hown (mvT hZ (hw _ (List.mem_of_getElem? (i := 8) rfl))) rfl (hb hby at_29) (XS.lloadN X4.here hx rfl (hb hby at_32) rfl (XS.lmul X4.here hx rfl (hb hby at_33) rfl (XS.ladd X4.here hx rfl (hb hby at_34) rfl (Jvm.Stand.ldc2J X4 hx hown (mvT hZ (hw _ (List.mem_of_getElem? (i := 9) rfl))) rfl (hb hby at_35) (XS.lloadN X4.here hx rfl (hb hby at_38) rfl (XS.lmul X4.here hx rfl (hb hby at_39) rfl (XS.ladd X4.here hx rfl (hb hby at_40) rfl (XS.lstore X4.here hx rfl (hb hby at_41) rfl (l' := #[.val (.long q0), .second, .val (.long q1), .second, .val (.long (f_by q0)), .second, .val (.long (f_by q1)), .second, .val (.long (f_by (q0 + q1))), .second, .val (.long (f_by (0 : Int64))), .second, .val (.long (((8 : Int64) + ((20 : Int64) * q0)) + ((4 : Int64) * q0))), .second, .unset, .unset, .unset, .unset]) rfl (Jvm.Stand.ldc2J X4 hx hown (mvT hZ (hw _ (List.mem_of_getElem? (i := 7) rfl))) rfl (hb hby at_43) k)))))))))))) ?_
  refine Wp.back (U' := (T4.setTop (mkF m 65 #[.val (.long q0), .second, .val (.long q1), .second, .val (.long (f_by q0)), .second, .val (.long (f_by q1)), .second, .val (.long (f_by (q0 + q1))), .second, .val (.long (f_by (0 : Int64))), .second, .val (.long (((8 : Int64) + ((20 : Int64) * q0)) + ((4 : Int64) * q0))), .second, .val (.long (((8 : Int64) + ((20 : Int64) * q1)) + ((4 : Int64) * q1))), .second, .unset, .unset] [(.int (lcmpW (f_by q0) (((8 : Int64) + ((20 : Int64) * q0)) + ((4 : Int64) * q0))))]))) (fun t k => Jvm.Stand.ldc2J X4 hx hown (mvT hZ (hw _ (List.mem_of_getElem? (i := 8) rfl))) rfl (hb hby at_46) (XS.lloadN X4.here hx rfl (hb hby at_49) rfl (XS.lmul X4.here hx rfl (hb hby at_50) rfl (XS.ladd X4.here hx rfl (hb hby at_51) rfl (Jvm.Stand.ldc2J X4 hx hown (mvT hZ (hw _ (List.mem_of_getElem? (i := 9) rfl))) rfl (hb hby at_52) (XS.lloadN X4.here hx rfl (hb hby at_55) rfl (XS.lmul X4.here hx rfl (hb hby at_56) rfl (XS.ladd X4.here hx rfl (hb hby at_57) rfl (XS.lstore X4.here hx rfl (hb hby at_58) rfl (l' := #[.val (.long q0), .second, .val (.long q1), .second, .val (.long (f_by q0)), .second, .val (.long (f_by q1)), .second, .val (.long (f_by (q0 + q1))), .second, .val (.long (f_by (0 : Int64))), .second, .val (.long (((8 : Int64) + ((20 : Int64) * q0)) + ((4 : Int64) * q0))), .second, .val (.long (((8 : Int64) + ((20 : Int64) * q1)) + ((4 : Int64) * q1))), .second, .unset, .unset]) rfl (XS.lload X4.here hx rfl (hb hby at_60) rfl (XS.lload X4.here hx rfl (hb hby at_62) rfl (XS.lcmp X4.here hx rfl (hb hby at_64) rfl k)))))))))))) ?_
  refine Wp.back (U' := (T4.setTop (mkF m 92 #[.val (.long q0), .second, .val (.long q1), .second, .val (.long (f_by q0)), .second, .val (.long (f_by q1)), .second, .val (.long (f_by (q0 + q1))), .second, .val (.long (f_by (0 : Int64))), .second, .val (.long (((8 : Int64) + ((20 : Int64) * q0)) + ((4 : Int64) * q0))), .second, .val (.long (((8 : Int64) + ((20 : Int64) * q1)) + ((4 : Int64) * q1))), .second, .val (.int (1 : Int32)), .unset] []))) (fun t k => XS.ifNo X4.here hx rfl (hb hby at_65) rfl ((if0 _ _).trans (teq ((lw_eq (f_by q0) (((8 : Int64) + ((20 : Int64) * q0)) + ((4 : Int64) * q0))).mpr (own_1 q0))).2) (XS.lload X4.here hx rfl (hb hby at_68) rfl (XS.lload X4.here hx rfl (hb hby at_70) rfl (XS.lcmp X4.here hx rfl (hb hby at_72) rfl (XS.ifNo X4.here hx rfl (hb hby at_73) rfl ((if0 _ _).trans (teq ((lw_eq (f_by q1) (((8 : Int64) + ((20 : Int64) * q1)) + ((4 : Int64) * q1))).mpr (own_1 q1))).2) (XS.lload X4.here hx rfl (hb hby at_76) rfl (Jvm.Stand.ldc2J X4 hx hown (mvT hZ (hw _ (List.mem_of_getElem? (i := 7) rfl))) rfl (hb hby at_78) (XS.lcmp X4.here hx rfl (hb hby at_81) rfl (XS.ifNo X4.here hx rfl (hb hby at_82) rfl ((if0 _ _).trans (teq ((lw_eq (f_by (0 : Int64)) (8 : Int64)).mpr own_2)).2) (XT.iconstV X4.here hx rfl (1 : Int32) (hb hby at_85) (by decide) (XS.goto X4.here hx rfl (pc0 := 86) (pc' := 90) rfl (hb hby at_86) (by decide) (by decide) (XS.istore X4.here hx rfl (hb hby at_90) rfl (l' := #[.val (.long q0), .second, .val (.long q1), .second, .val (.long (f_by q0)), .second, .val (.long (f_by q1)), .second, .val (.long (f_by (q0 + q1))), .second, .val (.long (f_by (0 : Int64))), .second, .val (.long (((8 : Int64) + ((20 : Int64) * q0)) + ((4 : Int64) * q0))), .second, .val (.long (((8 : Int64) + ((20 : Int64) * q1)) + ((4 : Int64) * q1))), .second, .val (.int (1 : Int32)), .unset]) rfl k)))))))))))) ?_
  refine Wp.back (U' := (T4.setTop (mkF m 115 #[.val (.long q0), .second, .val (.long q1), .second, .val (.long (f_by q0)), .second, .val (.long (f_by q1)), .second, .val (.long (f_by (q0 + q1))), .second, .val (.long (f_by (0 : Int64))), .second, .val (.long (((8 : Int64) + ((20 : Int64) * q0)) + ((4 : Int64) * q0))), .second, .val (.long (((8 : Int64) + ((20 : Int64) * q1)) + ((4 : Int64) * q1))), .second, .val (.int (1 : Int32)), .val (.int (1 : Int32))] [(.int (1 : Int32))]))) (fun t k => XS.lload X4.here hx rfl (hb hby at_92) rfl (XS.lload X4.here hx rfl (hb hby at_94) rfl (XS.ladd X4.here hx rfl (hb hby at_96) rfl (XS.lload X4.here hx rfl (hb hby at_97) rfl (XS.lload X4.here hx rfl (hb hby at_99) rfl (XS.ladd X4.here hx rfl (hb hby at_101) rfl (XS.lcmp X4.here hx rfl (hb hby at_102) rfl (XS.ifNo X4.here hx rfl (hb hby at_103) rfl ((if0 _ _).trans (teq ((lw_eq ((f_by q0) + (f_by q1)) ((f_by (q0 + q1)) + (f_by (0 : Int64)))).mpr (own_3 q0 q1))).2) (XT.iconstV X4.here hx rfl (1 : Int32) (hb hby at_106) (by decide) (XS.goto X4.here hx rfl (pc0 := 107) (pc' := 111) rfl (hb hby at_107) (by decide) (by decide) (XS.istore X4.here hx rfl (hb hby at_111) rfl (l' := #[.val (.long q0), .second, .val (.long q1), .second, .val (.long (f_by q0)), .second, .val (.long (f_by q1)), .second, .val (.long (f_by (q0 + q1))), .second, .val (.long (f_by (0 : Int64))), .second, .val (.long (((8 : Int64) + ((20 : Int64) * q0)) + ((4 : Int64) * q0))), .second, .val (.long (((8 : Int64) + ((20 : Int64) * q1)) + ((4 : Int64) * q1))), .second, .val (.int (1 : Int32)), .val (.int (1 : Int32))]) rfl (XS.iload X4.here hx rfl (hb hby at_113) rfl k)))))))))))) ?_
  refine Wp.back (U' := (T4.setTop (mkF m 128 #[.val (.long q0), .second, .val (.long q1), .second, .val (.long (f_by q0)), .second, .val (.long (f_by q1)), .second, .val (.long (f_by (q0 + q1))), .second, .val (.long (f_by (0 : Int64))), .second, .val (.long (((8 : Int64) + ((20 : Int64) * q0)) + ((4 : Int64) * q0))), .second, .val (.long (((8 : Int64) + ((20 : Int64) * q1)) + ((4 : Int64) * q1))), .second, .val (.int (1 : Int32)), .val (.int (1 : Int32))] [(.int (1 : Int32))]))) (fun t k => XS.ifNo X4.here hx rfl (hb hby at_115) rfl ((if0 _ _).trans (feq (by decide)).1) (XS.iload X4.here hx rfl (hb hby at_118) rfl (XS.ifNo X4.here hx rfl (hb hby at_120) rfl ((if0 _ _).trans (feq (by decide)).1) (XT.iconstV X4.here hx rfl (1 : Int32) (hb hby at_123) (by decide) (XS.goto X4.here hx rfl (pc0 := 124) (pc' := 128) rfl (hb hby at_124) (by decide) (by decide) k))))) ?_
  obtain ⟨fs, hr, hrun, hended, hW, hsame⟩ := X4.leave (v := (some (.int (1 : Int32)))) (fun h => by rw [hret] at h; cases h)
  refine Wp.done (retN X4 hx (t := .boolean) hret (by simp) (hb hby at_128) hr) hrun hended ⟨_, _, rfl, ?_, ⟨_, rfl⟩, hW, hsame.mono (by decide) (by decide)⟩
  show QL n0 _ T4.heap _
  exact ⟨rfl, N4⟩
set_option maxRecDepth 65536 in
set_option maxHeartbeats 40000000 in
theorem comes_1 {Post : Tables → Env → Array Value → State → Outcome → State → Prop} (hpost : ∀ tb e args s v u, (limb_1_1.after args s (.returned v) u = true ∧ limb_1_2.after args s (.returned v) u = true ∧ True) → FrameEnd s (.returned v) u (Jvm.fieldLocs frame_1_writes args s ++ Jvm.arrayLocs frame_1_arrays args s ++ Jvm.staticLocs frame_1_statics s) 0 0 → Post tb e args s (.returned v) u) :
    ArmFor flags0 classFile x code maxLocals ret World_1 tables_1 room_1 Calls_1 rest_1 Pre_1 Post := by
  intro l hfl _ _ p e ha hc hk s m args below hf hA hF happ hP
  obtain ⟨hcalls, hrest, hpre⟩ := hP
  obtain ⟨-, -, -, hnamed, -, -, -, hat⟩ := (Spec.applies_iff hf).mp happ
  obtain ⟨hg, hn⟩ := and_e (Cond.before_iff.mp (show (Jvm.Cond.and given_1 narrow_1).before args s = true from hpre))
  obtain ⟨hg1, hg2⟩ := and_e hg
  obtain ⟨hg21, hg22⟩ := and_e hg2
  obtain ⟨hn1, hn2⟩ := and_e hn
  obtain ⟨w0, w1, rfl⟩ : ∃ w0 w1 : Value, args = #[w0, w1] := by
    have hs : args.size = 2 := by simpa [Cond.value, given_1] using hg1
    obtain ⟨L⟩ := args
    match L, hs with
    | [w0, w1], _ => exact ⟨w0, w1, rfl⟩
  have hw := fun d (hd : d ∈ tables_1) => atoms_spec (ws := Jvm.Cond.code x code maxLocals ret :: tables_1) hat d (List.mem_cons_of_mem _ hd)
  have hfit : Fit s := fun {y c} hc i hi => by
    obtain ⟨ha, rfl⟩ := Array.getElem?_eq_some_iff.mp hc
    have q := List.all_eq_true.mp ((Array.all_eq_true_iff_forall_mem.mp hF) _ (Array.getElem_mem ha)) i (List.mem_range.mpr hi)
    simpa [Array.getElem?_eq_getElem hi] using q
  obtain ⟨i0, ei0⟩ := isL_v hg21
  obtain rfl : w0 = (.long i0) := Option.some.inj ei0
  obtain ⟨i1, ei1⟩ := isL_v hg22
  obtain rfl : w1 = (.long i1) := Option.some.inj ei1
  obtain ⟨am, eam⟩ := arr_v hn1
  have Sm : Sta s s.heap "com/example/known_leaks/knownleaks/ExactStore" "MAGIC" "[B" (.ref am) := Sta.start eam (Or.inr ⟨hw _ (List.mem_of_getElem? (i := 2) rfl), hw _ (List.mem_of_getElem? (i := 5) rfl)⟩)
  obtain ⟨cm, Am⟩ := Arr.start eam hn1
  have q8 := own_len Am eam hn2 (by decide)
  obtain ⟨n, o, h1, h2, h3, _, L, rfl, ⟨rfl, N⟩, hq⟩ := rm_law l s _ hw tables_1 i0 i1 am cm s.heap s.heap.size (Nat.le_refl _) Sm Am q8 p e ha hc hk s m _ below hf ((Spec.applies_iff_loose hf).mp happ).1 ⟨rfl, State.Warmed39.refl s, rfl⟩ trivial
  refine ⟨n, _, h1, h2, h3, hpost _ _ _ _ _ _ ⟨Cond.after_iff.mpr rfl, Cond.after_iff.mpr (eq_i res_at (Term.int_eval (1)) rfl), trivial⟩ ⟨hq.1, hq.2.1, (hq.2.2.sift fun y hy => Or.inr (N y hy)).mono (by decide) (by decide)⟩⟩
theorem main_1_1 : Claimed_1_1 := comes_1 fun _ _ _ _ _ _ h hF => ⟨h.1, hF⟩
theorem main_1_2 : Claimed_1_2 := comes_1 fun _ _ _ _ _ _ h hF => ⟨h.2.1, hF⟩
end Jvm.Pilot.@@N@@
namespace Jvm.Pilot.@@N@@
open Jvm Jvm.ClassFile Sem Op Lib Jvm.Free Jvm.Stand Jvm.Pilot.@@N@@.Jvm.D
/-! MADE BY PROGRAM (witnessworld.py) out of the Statement's table words and the real class files: 9 classes; the members and pool entries that the words name. The judged class is class 1, her method 1. -/
namespace start1
open Jvm.ClassFile
def u (s : String) : CpInfo := .utf8 (stringToUtf16 s)
/-- a pool by its gaps: so many unusable entries, then the entry; so many at the end -/
def gap : Nat → List CpInfo → List CpInfo
  | 0, r => r
  | n + 1, r => .unusable :: gap n r
def poolList (es : List (Nat × CpInfo)) (last : Nat) : List CpInfo := es.foldr (fun e r => gap e.1 (e.2 :: r)) (gap last [])
def pool (es : List (Nat × CpInfo)) (last : Nat) : Array CpInfo := ⟨poolList es last⟩
def fileOf (pool : Array CpInfo) (this : Nat) (attrs : Array Attribute := #[]) (ms : Array MethodInfo := #[]) (fl : Nat := 33) (sup : Nat := 0) (ifs : Array Nat := #[]) (fds : Array FieldInfo := #[]) : ClassFile where
  minorVersion := 0
  majorVersion := 65
  constantPool := pool
  accessFlags := fl
  thisClass := this
  superClass := sup
  interfaces := ifs
  fields := fds
  methods := ms
  attributes := attrs
def plain (name : String) (sup : Option ClassId) : Class where
  name := name
  kind := .ordinary
  loader := none
  accessFlags := 33
  super := sup
  interfaces := #[]
  cf := none
  fields := #[]
  methods := #[]
  instanceTypes := #[]
  staticTypes := #[]
  resolved := #[]
  callSites := []
  init := .initialized
  statics := none
  mirror := none

def pool0 : Array CpInfo := pool [(5, u "<init>"), (0, u "()V"), (1, .class_ 10), (1, u "java/lang/Object")] 113

def k0m0 : Method := { name := "<init>", desc := "()V", sig := { parameters := [], returnType := none }, accessFlags := 1, code := none }
/-- java/lang/Object -/
def k0 : Class := { plain "java/lang/Object" none with
  accessFlags := 33
  interfaces := #[]
  cf := some (fileOf pool0 8 #[] #[{ accessFlags := 1, nameIndex := 5, descriptorIndex := 6, attributes := #[] }] 33 0 #[] #[])
  fields := #[]
  methods := #[k0m0]
  instanceTypes := #[]
  staticTypes := #[]
  resolved := Array.replicate 124 none
  statics := none }

def pool1 : Array CpInfo := pool [(2, .class_ 4), (1, u "java/lang/Object"), (0, u "<init>"), (0, u "()V"), (0, .methodref 8 9), (0, .class_ 10), (0, .nameAndType 11 12), (0, u "com/example/known_leaks/knownleaks/ExactStore"), (0, u "bytes"), (0, u "(J)J"), (0, .long 8), (1, .long 20), (1, .long 4), (1, .class_ 20), (0, u "com/example/known_leaks/knownleaks/ExactStoreBytesPinLaw"), (2, u "law"), (0, u "(JJ)Z")] 3

def k1m0 : Method := { name := "<init>", desc := "()V", sig := { parameters := [], returnType := none }, accessFlags := 2, code := none }
def k1c1 : Code := { maxStack := 6, maxLocals := 18, code := code, exceptionTable := #[], attributes := #[] }
def k1m1 : Method := { name := "law", desc := "(JJ)Z", sig := { parameters := [.long, .long], returnType := some .boolean }, accessFlags := 9, code := some k1c1 }
/-- com/example/known_leaks/knownleaks/ExactStoreBytesPinLaw -/
def k1 : Class := { plain "com/example/known_leaks/knownleaks/ExactStoreBytesPinLaw" (some 0) with
  accessFlags := 49
  interfaces := #[]
  cf := some (fileOf pool1 19 #[] #[{ accessFlags := 2, nameIndex := 5, descriptorIndex := 6, attributes := #[] }, { accessFlags := 9, nameIndex := 23, descriptorIndex := 24, attributes := #[] }] 49 2 #[] #[])
  fields := #[]
  methods := #[k1m0, k1m1]
  instanceTypes := #[]
  staticTypes := #[]
  resolved := Array.replicate 28 none
  statics := none }

def pool2 : Array CpInfo := pool [(4, .class_ 6), (1, u "java/lang/Object"), (3, .class_ 12), (1, u "com/example/known_leaks/knownleaks/ExactStore"), (0, u "partitions"), (0, u "[Ljava/nio/ByteBuffer;"), (0, .fieldref 10 16), (0, .nameAndType 17 18), (0, u "MAGIC"), (0, u "[B"), (0, .long 24), (26, u "bytes"), (0, u "(J)J"), (149, u "FILE_NAME"), (0, u "Ljava/lang/String;"), (3, u "RECORD_BYTES"), (0, u "I"), (1, u "BUFFER_RECORDS"), (20, .class_ 227), (0, u "com/example/known_leaks/knownleaks/ExactStore$Writer")] 18

def k2c0 : Code := { maxStack := 6, maxLocals := 2, code := prog_10_method_2_code, exceptionTable := #[], attributes := #[] }
def k2m0 : Method := { name := "bytes", desc := "(J)J", sig := { parameters := [.long], returnType := some .long }, accessFlags := 8, code := some k2c0 }
/-- com/example/known_leaks/knownleaks/ExactStore -/
def k2 : Class := { plain "com/example/known_leaks/knownleaks/ExactStore" (some 0) with
  accessFlags := 32
  interfaces := #[]
  cf := some (fileOf pool2 10 #[.nestMembers #[226]] #[{ accessFlags := 8, nameIndex := 46, descriptorIndex := 47, attributes := #[] }] 32 4 #[] #[{ accessFlags := 24, nameIndex := 197, descriptorIndex := 198, attributes := #[] }, { accessFlags := 24, nameIndex := 202, descriptorIndex := 203, attributes := #[] }, { accessFlags := 26, nameIndex := 17, descriptorIndex := 18, attributes := #[] }, { accessFlags := 26, nameIndex := 205, descriptorIndex := 203, attributes := #[] }, { accessFlags := 18, nameIndex := 13, descriptorIndex := 14, attributes := #[] }])
  fields := #[{ name := "FILE_NAME", type := (.object "java/lang/String"), accessFlags := 24, slot := 0, constantValue := 0 }, { name := "RECORD_BYTES", type := .int, accessFlags := 24, slot := 1, constantValue := 0 }, { name := "MAGIC", type := (.array .byte), accessFlags := 26, slot := 2, constantValue := 0 }, { name := "BUFFER_RECORDS", type := .int, accessFlags := 26, slot := 3, constantValue := 0 }, { name := "partitions", type := (.array (.object "java/nio/ByteBuffer")), accessFlags := 18, slot := 0, constantValue := 0 }]
  methods := #[k2m0]
  instanceTypes := #[(.array (.object "java/nio/ByteBuffer"))]
  staticTypes := #[(.object "java/lang/String"), .int, (.array .byte), .int]
  resolved := Array.replicate 246 none
  statics := some 0 }

def pool3 : Array CpInfo := pool [(1, u "java/lang/Cloneable"), (0, .class_ 1), (0, u "java/lang/Object"), (0, .class_ 3)] 3

/-- java/lang/Cloneable -/
def k3 : Class := { plain "java/lang/Cloneable" (some 0) with
  accessFlags := 1537
  interfaces := #[]
  cf := some (fileOf pool3 2 #[] #[] 1537 4 #[] #[])
  fields := #[]
  methods := #[]
  instanceTypes := #[]
  staticTypes := #[]
  resolved := Array.replicate 8 none
  statics := none }

def pool4 : Array CpInfo := pool [(1, u "java/io/Serializable"), (0, .class_ 1), (0, u "java/lang/Object"), (0, .class_ 3)] 3

/-- java/io/Serializable -/
def k4 : Class := { plain "java/io/Serializable" (some 0) with
  accessFlags := 1537
  interfaces := #[]
  cf := some (fileOf pool4 2 #[] #[] 1537 4 #[] #[])
  fields := #[]
  methods := #[]
  instanceTypes := #[]
  staticTypes := #[]
  resolved := Array.replicate 8 none
  statics := none }

/-- the primitive byte -/
def k5 : Class := { plain "byte" none with kind := .primitive 'B', accessFlags := 0x411 }
/-- [B -/
def k6 : Class := { plain "[B" (some 0) with kind := .array 5 .byte, interfaces := #[3, 4], accessFlags := 1041 }

/-- the primitive int -/
def k7 : Class := { plain "int" none with kind := .primitive 'I', accessFlags := 0x411 }
/-- [I -/
def k8 : Class := { plain "[I" (some 0) with kind := .array 7 .int, interfaces := #[3, 4], accessFlags := 1041 }

def heap : Heap := #[{ cls := 2, slots := #[.null, .int 0, .ref 1, .int 0], vm := .statics 2 },
  { cls := 6, slots := #[.int 0, .int 0, .int 0, .int 0, .int 0, .int 0, .int 0, .int 0], vm := .none }]
def classes : Array Class := #[k0, k1, k2, k3, k4, k5, k6, k7, k8]
def interned : List (Array UInt16 × Addr) := []
def slotsUsed : Nat := 12
def theMethod : MethodId := ⟨1, 1⟩
def args0 : Array Value := #[.long 5, .long 7]
def aboutOver (below : List Frame) : State where
  vm := { classes := classes, interned := interned.toArray }
  heap := heap
  slotsUsed := slotsUsed
  threads := #[{ frames := .invoking theMethod args0 :: below }]
def below0 : List Frame := [.native { method := ⟨0, 0⟩, args := #[] }]
def about1 : State := aboutOver below0
def p0 : Program := .bare "" "" ""
def e0 : Env := launch0.env 0 0 0
theorem w_frames : about1.frames = Frame.invoking theMethod args0 :: below0 := rfl
set_option maxRecDepth 65536 in
theorem w_args : argsFit about1.vm theMethod args0 = true := by decide +kernel
set_option maxRecDepth 65536 in
theorem w_heap : heapFits about1 = true := by decide +kernel
set_option maxRecDepth 65536 in
theorem w_runnable : about1.curStatus? = some .runnable := by decide +kernel
set_option maxRecDepth 65536 in
theorem w_alone : about1.alone = true := by decide +kernel
set_option maxRecDepth 65536 in
theorem w_named : about1.methodNamed? x = some theMethod := by decide +kernel
set_option maxRecDepth 65536 in
theorem w_hears : about1.hears theMethod below0 = true := by decide +kernel
set_option maxRecDepth 65536 in
theorem w_ripe : about1.ripe theMethod args0 below0 = true := by decide +kernel
theorem w_running : about1.status = .running := rfl
set_option maxRecDepth 65536 in
theorem w_room : about1.hasRoom e0.platform room_1 = true :=
  launch0.hasRoom_least _ room_1 (by decide +kernel) (by decide +kernel) (by decide +kernel) (by decide +kernel) (by decide +kernel) (by decide +kernel)
theorem allAtoms_all (ts : List Jvm.Cond) (a : Array Jvm.Value) (st : Jvm.State) : (allAtoms ts).before a st = ts.all (fun c => c.before a st) := by
  induction ts with
  | nil => rfl
  | cons c t ih =>
    show (Jvm.Cond.and c (allAtoms t)).before a st = _
    rw [Jvm.Cond.before_and, ih, List.all_cons]
def words1 : List Jvm.Cond := Jvm.Cond.code x code maxLocals ret :: tables_1
/-- a 'code' word, met by the world's own term for the bytes: nothing is compared byte by byte -/
theorem code_word {y : MethodName} {bytes : ByteArray} {mx : Nat} {rt : Option FieldType} {a : Array Value} {s : State} {m : MethodId} {meth : Method} {c : Code} (h1 : s.methodNamed? y = some m) (h2 : s.vm.method? m = some meth) (h3 : meth.code = some c) (h4 : c.code = bytes)
    (h5 : (c.maxLocals == mx && c.exceptionTable.isEmpty && decide (c.maxStack ≤ mostOperands) && decide (meth.sig.returnType = rt) && !meth.locks && decide (parseMethodDescriptor y.desc = some meth.sig)) = true) : (Jvm.Cond.code y bytes mx rt).before a s = true := by
  simp only [Bool.and_eq_true, beq_iff_eq, Bool.not_eq_true', decide_eq_true_eq] at h5
  obtain ⟨⟨⟨⟨⟨g1, g2⟩, g3⟩, g4⟩, g5⟩, g6⟩ := h5
  simp [Cond.before, Cond.holds, Cond.value, h1, h2, h3, h4, g1, g2, g3, g4, g5, g6]
def isCode : Jvm.Cond → Bool
  | .code _ _ _ _ => true
  | _ => false
theorem all_split {L : List Jvm.Cond} {P : Jvm.Cond → Bool} (h1 : L.all (fun c => isCode c || P c) = true) (h2 : ∀ c ∈ L.filter isCode, P c = true) : L.all P = true := by
  refine List.all_eq_true.mpr fun c hc => ?_
  have h := List.all_eq_true.mp h1 c hc
  rcases Bool.eq_false_or_eq_true (isCode c) with hi | hi
  · exact h2 c (List.mem_filter.mpr ⟨hc, hi⟩)
  · simpa [hi] using h
set_option maxRecDepth 65536 in
theorem w_c0 : (Jvm.Cond.code x code maxLocals ret).before args0 about1 = true := code_word (m := ⟨1, 1⟩) (meth := k1m1) (c := k1c1) (by decide +kernel) rfl rfl rfl (by decide +kernel)
set_option maxRecDepth 65536 in
theorem w_c1 : (Jvm.Cond.code ({ cls := "com/example/known_leaks/knownleaks/ExactStore", name := "bytes", desc := "(J)J" } : Jvm.MethodName) prog_10_method_2_code (2 : Nat) (Option.some Jvm.ClassFile.FieldType.long)).before args0 about1 = true := code_word (m := ⟨2, 0⟩) (meth := k2m0) (c := k2c0) (by decide +kernel) rfl rfl rfl (by decide +kernel)
def codes1 : List Jvm.Cond := [Jvm.Cond.code x code maxLocals ret, Jvm.Cond.code ({ cls := "com/example/known_leaks/knownleaks/ExactStore", name := "bytes", desc := "(J)J" } : Jvm.MethodName) prog_10_method_2_code (2 : Nat) (Option.some Jvm.ClassFile.FieldType.long)]
set_option maxRecDepth 65536 in
theorem codes_eq : words1.filter isCode = codes1 := rfl
theorem w_codes : ∀ c ∈ words1.filter isCode, c.before args0 about1 = true := by
  rw [codes_eq]
  intro c hc
  simp only [codes1, List.mem_cons, List.not_mem_nil, or_false] at hc
  rcases hc with rfl | rfl
  · exact w_c0
  · exact w_c1
set_option maxRecDepth 65536 in
theorem w_t1 : words1.all (fun c => isCode c || c.before args0 about1) = true := by decide +kernel
theorem w_tables : (allAtoms (Jvm.Cond.code x code maxLocals ret :: tables_1)).before args0 about1 = true := by
  rw [allAtoms_all]
  show words1.all (fun c => c.before args0 about1) = true
  refine all_split ?_ w_codes
  rw [w_t1]
set_option maxRecDepth 65536 in
theorem w_case : (Jvm.Cond.and given_1 narrow_1).before args0 about1 = true := by decide +kernel
theorem w_applies : (headSpec (Jvm.Cond.code x code maxLocals ret :: tables_1) room_1).applies x e0.platform about1 = true :=
  (Spec.applies_iff w_frames).mpr ⟨w_running, w_runnable, w_alone, w_named, w_hears, w_ripe, w_room, w_tables⟩
theorem atStart : AtStart classFile x code maxLocals ret World_1 tables_1 room_1 Calls_1 rest_1 Pre_1 launch0 p0 e0 about1 theMethod args0 below0 :=
  ⟨lists_1, trivial, launch0.admits_env _ _ _, launch0.least_env, fairChoices_fair.cas, fairChoices_fair.clock, w_frames, w_args, w_heap, w_applies, trivial, trivial, w_case⟩
end start1
theorem witness_1 : WitnessClaimed_1 := ⟨start1.p0, start1.e0, start1.about1, start1.theMethod, start1.args0, start1.below0, start1.atStart⟩
end Jvm.Pilot.@@N@@
