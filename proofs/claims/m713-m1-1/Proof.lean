import JvmDerived
import JvmDerived.Pilot.@@N@@Statement
import JvmDerived.Pilot.@@N@@Code
set_option linter.unusedVariables false
set_option linter.unusedSimpArgs false
namespace Jvm.RoadKit
open Sem ClassFile Op Lib Jvm.Stand Jvm.Free Jvm.LawKit
section New
variable {p : Program} {l : Launch} {e : Env} {R : Room} {s : State} {m : MethodId} {args : Array Value} {below : List Frame} {meth : Method} {c : Code} {T : State} {locs : List Loc} {cells slots : Nat}
theorem retI (X : Stand p l e R s m args below meth c T locs cells slots) (hx : p.tables.exec = Jvm.exec) {pc : Nat} {Ls : Array Slot} {z : Int32} {rest : List Value} (hret : meth.sig.returnType = some .int) (hd : decode c.code pc = .ok (.ireturn, 1)) {fs : List Frame}
    (hl : ∀ (f : JFrame) (acts : List Action), f.method = m → f.locked = none → f.entered = [] → (doReturn e (T.setTop f) acts (some (.int z))).1 = T.setFrames fs) : Steps p.tables e below (T.setTop (mkF m pc Ls (.int z :: rest))) (T.setFrames fs) := by
  have hm' : T.vm.method? m = some meth := X.method'
  have hn : narrow .int (.int z) = .int z := rfl
  show Steps p.tables e below (T.setTop { method := m, pc := pc, locals := Ls, stack := _ :: rest, locked := none }) _
  jvm_step X.here [X.here.top, hx, hd, hm', hret, hn]
  first | (intro acts; rw [hl _ acts rfl rfl rfl]) | rw [hl _ _ rfl rfl rfl]
  exact Steps.refl _
end New
end Jvm.RoadKit
namespace Jvm.Pilot.@@N@@
open Jvm Jvm.ClassFile Sem Op Lib Jvm.Free Jvm.Stand Jvm.LawKit Jvm.RoadKit Bundle Jvm.Pilot.@@N@@.Jvm.D
def Wp (p : Program) (e : Env) (below : List Frame) (G : Outcome → State → Prop) (U : State) : Prop := ∃ s₂ o, Steps p.tables e below U s₂ ∧ s₂.status = .running ∧ Ended s₂ below o ∧ G o s₂
theorem Wp.back {p : Program} {e : Env} {below : List Frame} {G : Outcome → State → Prop} {U U' : State} (k : ∀ t, Steps p.tables e below U' t → Steps p.tables e below U t) (h : Wp p e below G U') : Wp p e below G U := by
  obtain ⟨s₂, o, h1, h2⟩ := h
  exact ⟨s₂, o, k _ h1, h2⟩
theorem Wp.done {p : Program} {e : Env} {below : List Frame} {G : Outcome → State → Prop} {U t : State} {o : Outcome} (h1 : Steps p.tables e below U t) (h2 : t.status = .running) (h3 : Ended t below o) (h4 : G o t) : Wp p e below G U := ⟨t, o, h1, h2, h3, h4⟩
/-- what a body leaves that writes nothing -/
def QL (n0 : Nat) (v : Option Value) (h : Heap) (L : List Loc) : Prop := v = some (.int 1) ∧ Fr n0 L
def QP (r : Option Value) (h0 : Heap) (n0 : Nat) (v : Option Value) (h : Heap) (L : List Loc) : Prop := v = r ∧ Fr n0 L ∧ h = h0
theorem own_irrefl (x : Int32) : ¬ x < x := by rw [Int32.lt_iff_toInt_lt]; omega
theorem Sta_keep0 {Z : State} {h h' : Heap} {C n d : String} {v : Value} (F : Sta Z h C n d v) (K : Keep h h' []) : Sta Z h' C n d v := by
  obtain ⟨cf, i, k, f, st, cell, h1, h2, h3, h4, h5, r⟩ := F
  exact ⟨cf, i, k, f, st, cell, h1, h2, h3, h4, K.2.1 _ _ h5 nin0, r⟩
def f_ic (p0 : Int32) : Int32 := (if p0 = (9 : Int32) then (1 : Int32) else (if p0 = (10 : Int32) then (1 : Int32) else (if p0 = (13 : Int32) then (1 : Int32) else (if p0 < (32 : Int32) then (if p0 < (57344 : Int32) then (if p0 < (65536 : Int32) then (0 : Int32) else (if (1114111 : Int32) < p0 then (0 : Int32) else (1 : Int32))) else (if (65533 : Int32) < p0 then (if p0 < (65536 : Int32) then (0 : Int32) else (if (1114111 : Int32) < p0 then (0 : Int32) else (1 : Int32))) else (1 : Int32))) else (if (55295 : Int32) < p0 then (if p0 < (57344 : Int32) then (if p0 < (65536 : Int32) then (0 : Int32) else (if (1114111 : Int32) < p0 then (0 : Int32) else (1 : Int32))) else (if (65533 : Int32) < p0 then (if p0 < (65536 : Int32) then (0 : Int32) else (if (1114111 : Int32) < p0 then (0 : Int32) else (1 : Int32))) else (1 : Int32))) else (1 : Int32))))))
theorem d1_0 : decode prog_61_method_4_code 0 = .ok (.iload_n 0, 1) := by decide +kernel
theorem d1_1 : decode prog_61_method_4_code 1 = .ok (.bipush 9, 2) := by decide +kernel
theorem d1_3 : decode prog_61_method_4_code 3 = .ok (.if_icmp .eq 51, 3) := by decide +kernel
theorem d1_6 : decode prog_61_method_4_code 6 = .ok (.iload_n 0, 1) := by decide +kernel
theorem d1_7 : decode prog_61_method_4_code 7 = .ok (.bipush 10, 2) := by decide +kernel
theorem d1_9 : decode prog_61_method_4_code 9 = .ok (.if_icmp .eq 45, 3) := by decide +kernel
theorem d1_12 : decode prog_61_method_4_code 12 = .ok (.iload_n 0, 1) := by decide +kernel
theorem d1_13 : decode prog_61_method_4_code 13 = .ok (.bipush 13, 2) := by decide +kernel
theorem d1_15 : decode prog_61_method_4_code 15 = .ok (.if_icmp .eq 39, 3) := by decide +kernel
theorem d1_18 : decode prog_61_method_4_code 18 = .ok (.iload_n 0, 1) := by decide +kernel
theorem d1_19 : decode prog_61_method_4_code 19 = .ok (.bipush 32, 2) := by decide +kernel
theorem d1_21 : decode prog_61_method_4_code 21 = .ok (.if_icmp .lt 9, 3) := by decide +kernel
theorem d1_24 : decode prog_61_method_4_code 24 = .ok (.iload_n 0, 1) := by decide +kernel
theorem d1_25 : decode prog_61_method_4_code 25 = .ok (.ldc 23, 2) := by decide +kernel
theorem d1_27 : decode prog_61_method_4_code 27 = .ok (.if_icmp .le 27, 3) := by decide +kernel
theorem d1_30 : decode prog_61_method_4_code 30 = .ok (.iload_n 0, 1) := by decide +kernel
theorem d1_31 : decode prog_61_method_4_code 31 = .ok (.ldc 24, 2) := by decide +kernel
theorem d1_33 : decode prog_61_method_4_code 33 = .ok (.if_icmp .lt 9, 3) := by decide +kernel
theorem d1_36 : decode prog_61_method_4_code 36 = .ok (.iload_n 0, 1) := by decide +kernel
theorem d1_37 : decode prog_61_method_4_code 37 = .ok (.ldc 25, 2) := by decide +kernel
theorem d1_39 : decode prog_61_method_4_code 39 = .ok (.if_icmp .le 15, 3) := by decide +kernel
theorem d1_42 : decode prog_61_method_4_code 42 = .ok (.iload_n 0, 1) := by decide +kernel
theorem d1_43 : decode prog_61_method_4_code 43 = .ok (.ldc 26, 2) := by decide +kernel
theorem d1_45 : decode prog_61_method_4_code 45 = .ok (.if_icmp .lt 13, 3) := by decide +kernel
theorem d1_48 : decode prog_61_method_4_code 48 = .ok (.iload_n 0, 1) := by decide +kernel
theorem d1_49 : decode prog_61_method_4_code 49 = .ok (.ldc 29, 2) := by decide +kernel
theorem d1_51 : decode prog_61_method_4_code 51 = .ok (.if_icmp .gt 7, 3) := by decide +kernel
theorem d1_54 : decode prog_61_method_4_code 54 = .ok (.iconst 1, 1) := by decide +kernel
theorem d1_55 : decode prog_61_method_4_code 55 = .ok (.goto 4, 3) := by decide +kernel
theorem d1_58 : decode prog_61_method_4_code 58 = .ok (.iconst 0, 1) := by decide +kernel
theorem d1_59 : decode prog_61_method_4_code 59 = .ok (.ireturn, 1) := by decide +kernel
theorem pn1 : plainName "com/example/package_registry_reader/packageregistryreader/reader/XmlSyntax" = true := by first | (simp [plainName, overriddenIn]; done) | decide +kernel
theorem ef1 (m : MethodId) (x0 : Int32) : entryFrame m #[(.int x0)] 1 = mkF m 0 #[.val (.int x0)] [] := by first | (simp [entryFrame, mkF, argsToLocals, Value.category]; done) | rfl
set_option maxRecDepth 65536 in
set_option maxHeartbeats 40000000 in
theorem rm_f_ic (l : Launch) (Z : State) (a0 : Array Value) (hw : ∀ d ∈ tables_1, d.before a0 Z = true) (ws : List Jvm.Cond) (p0 : Int32) (h0 : Heap) (n0 : Nat) (Z0 : n0 ≤ h0.size)  :
    MetFree l (⟨"com/example/package_registry_reader/packageregistryreader/reader/XmlSyntax", "isCharacter", "(I)Z"⟩ : MethodName) (head1 (Jvm.Cond.code (⟨"com/example/package_registry_reader/packageregistryreader/reader/XmlSyntax", "isCharacter", "(I)Z"⟩ : MethodName) prog_61_method_4_code 1 (some .boolean) :: ws) ({ frames := 0, cells := 0, slots := 0, locals := 0 } : Room)) (fun a U => a = #[(.int p0)] ∧ Z.Warmed39 U.vm ∧ U.heap = h0) (fun _ _ _ _ _ => True) (fun _ U o U' => ∃ v L, o = .returned v ∧ QP (some (.int (f_ic p0))) h0 n0 v U'.heap L ∧ FrameEnd U o U' L ({ frames := 0, cells := 0, slots := 0, locals := 0 } : Room).cells ({ frames := 0, cells := 0, slots := 0, locals := 0 } : Room).slots) := by
  refine MetFree.of_bodySF (plainFor_of_name pn1) hisR ?_
  intro p e s m args below meth c s₁ Bd hml0 hP hK
  obtain ⟨rfl, hZ, hh⟩ := hP
  have hx := Bd.exec
  have hby := Bd.bytes
  have hret := Bd.returns
  have hlk := Bd.notSynchronized
  have hml : c.maxLocals = 1 := hml0
  have hown : s.vm.findClass "com/example/package_registry_reader/packageregistryreader/reader/XmlSyntax" = some m.cls := findClass_of_methodNamed Bd.named
  have hnm := (name_of_methodNamed Bd.named Bd.method).1
  have X0 : Stand p l e ({ frames := 0, cells := 0, slots := 0, locals := 0 } : Room) s m #[(.int p0)] below meth c s₁ [] 0 0 := Stand.of_body Bd
  have e0 : s₁.heap = h0 := by rw [← hh, Bd.state]; rfl
  have N0 := Fr.nil n0
  show Wp p e below (fun o s₂ => ∃ v L, o = .returned v ∧ QP (some (.int (f_ic p0))) h0 n0 v s₂.heap L ∧ FrameEnd s o s₂ L ({ frames := 0, cells := 0, slots := 0, locals := 0 } : Room).cells ({ frames := 0, cells := 0, slots := 0, locals := 0 } : Room).slots) _
  refine Wp.back (U' := (s₁.setTop (mkF m 0 #[.val (.int p0)] []))) (fun t k => castTop (ef1 m p0) k) ?_
  refine Wp.back (U' := (s₁.setTop (mkF m 3 #[.val (.int p0)] [(.int (9 : Int32)), (.int p0)]))) (fun t k => XS.iloadN X0.here hx rfl (hb hby d1_0) rfl (XT.bipushV X0.here hx rfl (9 : Int32) (hb hby d1_1) (by decide) k)) ?_
  by_cases c3_1 : p0 = (9 : Int32)
  · refine Wp.back (U' := (s₁.setTop (mkF m 59 #[.val (.int p0)] [(.int (1 : Int32))]))) (fun t k => XS.icmpYes X0.here hx rfl (pc0 := 3) (pc' := 54) rfl (hb hby d1_3) rfl (teq c3_1).1 (by decide) (by decide) (XT.iconstV X0.here hx rfl (1 : Int32) (hb hby d1_54) (by decide) (XS.goto X0.here hx rfl (pc0 := 55) (pc' := 59) rfl (hb hby d1_55) (by decide) (by decide) k))) ?_
    obtain ⟨fs, hr, hrun, hended, hW, hsame⟩ := X0.leave (v := (some (.int (1 : Int32)))) (fun h => by rw [hret] at h; cases h)
    refine Wp.done (retN X0 hx (t := .boolean) hret (by simp) (hb hby d1_59) hr) hrun hended ⟨_, _, rfl, ?_, ⟨_, rfl⟩, hW, hsame.mono (by decide) (by decide)⟩
    show QP _ h0 n0 _ s₁.heap _
    exact ⟨(by rw [f_ic, if_pos c3_1]), N0, e0⟩
  · refine Wp.back (U' := (s₁.setTop (mkF m 9 #[.val (.int p0)] [(.int (10 : Int32)), (.int p0)]))) (fun t k => XS.icmpNo X0.here hx rfl (hb hby d1_3) rfl (feq c3_1).1 (XS.iloadN X0.here hx rfl (hb hby d1_6) rfl (XT.bipushV X0.here hx rfl (10 : Int32) (hb hby d1_7) (by decide) k))) ?_
    by_cases c9_2 : p0 = (10 : Int32)
    · refine Wp.back (U' := (s₁.setTop (mkF m 59 #[.val (.int p0)] [(.int (1 : Int32))]))) (fun t k => XS.icmpYes X0.here hx rfl (pc0 := 9) (pc' := 54) rfl (hb hby d1_9) rfl (teq c9_2).1 (by decide) (by decide) (XT.iconstV X0.here hx rfl (1 : Int32) (hb hby d1_54) (by decide) (XS.goto X0.here hx rfl (pc0 := 55) (pc' := 59) rfl (hb hby d1_55) (by decide) (by decide) k))) ?_
      obtain ⟨fs, hr, hrun, hended, hW, hsame⟩ := X0.leave (v := (some (.int (1 : Int32)))) (fun h => by rw [hret] at h; cases h)
      refine Wp.done (retN X0 hx (t := .boolean) hret (by simp) (hb hby d1_59) hr) hrun hended ⟨_, _, rfl, ?_, ⟨_, rfl⟩, hW, hsame.mono (by decide) (by decide)⟩
      show QP _ h0 n0 _ s₁.heap _
      exact ⟨(by rw [f_ic, if_neg c3_1, if_pos c9_2]), N0, e0⟩
    · refine Wp.back (U' := (s₁.setTop (mkF m 15 #[.val (.int p0)] [(.int (13 : Int32)), (.int p0)]))) (fun t k => XS.icmpNo X0.here hx rfl (hb hby d1_9) rfl (feq c9_2).1 (XS.iloadN X0.here hx rfl (hb hby d1_12) rfl (XT.bipushV X0.here hx rfl (13 : Int32) (hb hby d1_13) (by decide) k))) ?_
      by_cases c15_3 : p0 = (13 : Int32)
      · refine Wp.back (U' := (s₁.setTop (mkF m 59 #[.val (.int p0)] [(.int (1 : Int32))]))) (fun t k => XS.icmpYes X0.here hx rfl (pc0 := 15) (pc' := 54) rfl (hb hby d1_15) rfl (teq c15_3).1 (by decide) (by decide) (XT.iconstV X0.here hx rfl (1 : Int32) (hb hby d1_54) (by decide) (XS.goto X0.here hx rfl (pc0 := 55) (pc' := 59) rfl (hb hby d1_55) (by decide) (by decide) k))) ?_
        obtain ⟨fs, hr, hrun, hended, hW, hsame⟩ := X0.leave (v := (some (.int (1 : Int32)))) (fun h => by rw [hret] at h; cases h)
        refine Wp.done (retN X0 hx (t := .boolean) hret (by simp) (hb hby d1_59) hr) hrun hended ⟨_, _, rfl, ?_, ⟨_, rfl⟩, hW, hsame.mono (by decide) (by decide)⟩
        show QP _ h0 n0 _ s₁.heap _
        exact ⟨(by rw [f_ic, if_neg c3_1, if_neg c9_2, if_pos c15_3]), N0, e0⟩
      · refine Wp.back (U' := (s₁.setTop (mkF m 21 #[.val (.int p0)] [(.int (32 : Int32)), (.int p0)]))) (fun t k => XS.icmpNo X0.here hx rfl (hb hby d1_15) rfl (feq c15_3).1 (XS.iloadN X0.here hx rfl (hb hby d1_18) rfl (XT.bipushV X0.here hx rfl (32 : Int32) (hb hby d1_19) (by decide) k))) ?_
        by_cases c21_4 : p0 < (32 : Int32)
        · refine Wp.back (U' := (s₁.setTop (mkF m 33 #[.val (.int p0)] [(.int (57344 : Int32)), (.int p0)]))) (fun t k => XS.icmpYes X0.here hx rfl (pc0 := 21) (pc' := 30) rfl (hb hby d1_21) rfl (tlt c21_4).1 (by decide) (by decide) (XS.iloadN X0.here hx rfl (hb hby d1_30) rfl (Jvm.Stand.ldcI X0 hx hown (mvT hZ (hw _ (List.mem_of_getElem? (i := 17) rfl))) rfl (hb hby d1_31) k))) ?_
          by_cases c33_5 : p0 < (57344 : Int32)
          · refine Wp.back (U' := (s₁.setTop (mkF m 45 #[.val (.int p0)] [(.int (65536 : Int32)), (.int p0)]))) (fun t k => XS.icmpYes X0.here hx rfl (pc0 := 33) (pc' := 42) rfl (hb hby d1_33) rfl (tlt c33_5).1 (by decide) (by decide) (XS.iloadN X0.here hx rfl (hb hby d1_42) rfl (Jvm.Stand.ldcI X0 hx hown (mvT hZ (hw _ (List.mem_of_getElem? (i := 18) rfl))) rfl (hb hby d1_43) k))) ?_
            by_cases c45_6 : p0 < (65536 : Int32)
            · refine Wp.back (U' := (s₁.setTop (mkF m 59 #[.val (.int p0)] [(.int (0 : Int32))]))) (fun t k => XS.icmpYes X0.here hx rfl (pc0 := 45) (pc' := 58) rfl (hb hby d1_45) rfl (tlt c45_6).1 (by decide) (by decide) (XT.iconstV X0.here hx rfl (0 : Int32) (hb hby d1_58) (by decide) k)) ?_
              obtain ⟨fs, hr, hrun, hended, hW, hsame⟩ := X0.leave (v := (some (.int (0 : Int32)))) (fun h => by rw [hret] at h; cases h)
              refine Wp.done (retN X0 hx (t := .boolean) hret (by simp) (hb hby d1_59) hr) hrun hended ⟨_, _, rfl, ?_, ⟨_, rfl⟩, hW, hsame.mono (by decide) (by decide)⟩
              show QP _ h0 n0 _ s₁.heap _
              exact ⟨(by rw [f_ic, if_neg c3_1, if_neg c9_2, if_neg c15_3, if_pos c21_4, if_pos c33_5, if_pos c45_6]), N0, e0⟩
            · refine Wp.back (U' := (s₁.setTop (mkF m 51 #[.val (.int p0)] [(.int (1114111 : Int32)), (.int p0)]))) (fun t k => XS.icmpNo X0.here hx rfl (hb hby d1_45) rfl (flt c45_6).1 (XS.iloadN X0.here hx rfl (hb hby d1_48) rfl (Jvm.Stand.ldcI X0 hx hown (mvT hZ (hw _ (List.mem_of_getElem? (i := 25) rfl))) rfl (hb hby d1_49) k))) ?_
              by_cases c51_7 : (1114111 : Int32) < p0
              · refine Wp.back (U' := (s₁.setTop (mkF m 59 #[.val (.int p0)] [(.int (0 : Int32))]))) (fun t k => XS.icmpYes X0.here hx rfl (pc0 := 51) (pc' := 58) rfl (hb hby d1_51) rfl (tlt c51_7).2.2.1 (by decide) (by decide) (XT.iconstV X0.here hx rfl (0 : Int32) (hb hby d1_58) (by decide) k)) ?_
                obtain ⟨fs, hr, hrun, hended, hW, hsame⟩ := X0.leave (v := (some (.int (0 : Int32)))) (fun h => by rw [hret] at h; cases h)
                refine Wp.done (retN X0 hx (t := .boolean) hret (by simp) (hb hby d1_59) hr) hrun hended ⟨_, _, rfl, ?_, ⟨_, rfl⟩, hW, hsame.mono (by decide) (by decide)⟩
                show QP _ h0 n0 _ s₁.heap _
                exact ⟨(by rw [f_ic, if_neg c3_1, if_neg c9_2, if_neg c15_3, if_pos c21_4, if_pos c33_5, if_neg c45_6, if_pos c51_7]), N0, e0⟩
              · refine Wp.back (U' := (s₁.setTop (mkF m 59 #[.val (.int p0)] [(.int (1 : Int32))]))) (fun t k => XS.icmpNo X0.here hx rfl (hb hby d1_51) rfl (flt c51_7).2.2.1 (XT.iconstV X0.here hx rfl (1 : Int32) (hb hby d1_54) (by decide) (XS.goto X0.here hx rfl (pc0 := 55) (pc' := 59) rfl (hb hby d1_55) (by decide) (by decide) k))) ?_
                obtain ⟨fs, hr, hrun, hended, hW, hsame⟩ := X0.leave (v := (some (.int (1 : Int32)))) (fun h => by rw [hret] at h; cases h)
                refine Wp.done (retN X0 hx (t := .boolean) hret (by simp) (hb hby d1_59) hr) hrun hended ⟨_, _, rfl, ?_, ⟨_, rfl⟩, hW, hsame.mono (by decide) (by decide)⟩
                show QP _ h0 n0 _ s₁.heap _
                exact ⟨(by rw [f_ic, if_neg c3_1, if_neg c9_2, if_neg c15_3, if_pos c21_4, if_pos c33_5, if_neg c45_6, if_neg c51_7]), N0, e0⟩
          · refine Wp.back (U' := (s₁.setTop (mkF m 39 #[.val (.int p0)] [(.int (65533 : Int32)), (.int p0)]))) (fun t k => XS.icmpNo X0.here hx rfl (hb hby d1_33) rfl (flt c33_5).1 (XS.iloadN X0.here hx rfl (hb hby d1_36) rfl (Jvm.Stand.ldcI X0 hx hown (mvT hZ (hw _ (List.mem_of_getElem? (i := 24) rfl))) rfl (hb hby d1_37) k))) ?_
            by_cases c39_8 : (65533 : Int32) < p0
            · refine Wp.back (U' := (s₁.setTop (mkF m 45 #[.val (.int p0)] [(.int (65536 : Int32)), (.int p0)]))) (fun t k => XS.icmpNo X0.here hx rfl (hb hby d1_39) rfl (tlt c39_8).2.2.2 (XS.iloadN X0.here hx rfl (hb hby d1_42) rfl (Jvm.Stand.ldcI X0 hx hown (mvT hZ (hw _ (List.mem_of_getElem? (i := 18) rfl))) rfl (hb hby d1_43) k))) ?_
              by_cases c45_9 : p0 < (65536 : Int32)
              · refine Wp.back (U' := (s₁.setTop (mkF m 59 #[.val (.int p0)] [(.int (0 : Int32))]))) (fun t k => XS.icmpYes X0.here hx rfl (pc0 := 45) (pc' := 58) rfl (hb hby d1_45) rfl (tlt c45_9).1 (by decide) (by decide) (XT.iconstV X0.here hx rfl (0 : Int32) (hb hby d1_58) (by decide) k)) ?_
                obtain ⟨fs, hr, hrun, hended, hW, hsame⟩ := X0.leave (v := (some (.int (0 : Int32)))) (fun h => by rw [hret] at h; cases h)
                refine Wp.done (retN X0 hx (t := .boolean) hret (by simp) (hb hby d1_59) hr) hrun hended ⟨_, _, rfl, ?_, ⟨_, rfl⟩, hW, hsame.mono (by decide) (by decide)⟩
                show QP _ h0 n0 _ s₁.heap _
                exact ⟨(by rw [f_ic, if_neg c3_1, if_neg c9_2, if_neg c15_3, if_pos c21_4, if_neg c33_5, if_pos c39_8, if_pos c45_9]), N0, e0⟩
              · refine Wp.back (U' := (s₁.setTop (mkF m 51 #[.val (.int p0)] [(.int (1114111 : Int32)), (.int p0)]))) (fun t k => XS.icmpNo X0.here hx rfl (hb hby d1_45) rfl (flt c45_9).1 (XS.iloadN X0.here hx rfl (hb hby d1_48) rfl (Jvm.Stand.ldcI X0 hx hown (mvT hZ (hw _ (List.mem_of_getElem? (i := 25) rfl))) rfl (hb hby d1_49) k))) ?_
                by_cases c51_10 : (1114111 : Int32) < p0
                · refine Wp.back (U' := (s₁.setTop (mkF m 59 #[.val (.int p0)] [(.int (0 : Int32))]))) (fun t k => XS.icmpYes X0.here hx rfl (pc0 := 51) (pc' := 58) rfl (hb hby d1_51) rfl (tlt c51_10).2.2.1 (by decide) (by decide) (XT.iconstV X0.here hx rfl (0 : Int32) (hb hby d1_58) (by decide) k)) ?_
                  obtain ⟨fs, hr, hrun, hended, hW, hsame⟩ := X0.leave (v := (some (.int (0 : Int32)))) (fun h => by rw [hret] at h; cases h)
                  refine Wp.done (retN X0 hx (t := .boolean) hret (by simp) (hb hby d1_59) hr) hrun hended ⟨_, _, rfl, ?_, ⟨_, rfl⟩, hW, hsame.mono (by decide) (by decide)⟩
                  show QP _ h0 n0 _ s₁.heap _
                  exact ⟨(by rw [f_ic, if_neg c3_1, if_neg c9_2, if_neg c15_3, if_pos c21_4, if_neg c33_5, if_pos c39_8, if_neg c45_9, if_pos c51_10]), N0, e0⟩
                · refine Wp.back (U' := (s₁.setTop (mkF m 59 #[.val (.int p0)] [(.int (1 : Int32))]))) (fun t k => XS.icmpNo X0.here hx rfl (hb hby d1_51) rfl (flt c51_10).2.2.1 (XT.iconstV X0.here hx rfl (1 : Int32) (hb hby d1_54) (by decide) (XS.goto X0.here hx rfl (pc0 := 55) (pc' := 59) rfl (hb hby d1_55) (by decide) (by decide) k))) ?_
                  obtain ⟨fs, hr, hrun, hended, hW, hsame⟩ := X0.leave (v := (some (.int (1 : Int32)))) (fun h => by rw [hret] at h; cases h)
                  refine Wp.done (retN X0 hx (t := .boolean) hret (by simp) (hb hby d1_59) hr) hrun hended ⟨_, _, rfl, ?_, ⟨_, rfl⟩, hW, hsame.mono (by decide) (by decide)⟩
                  show QP _ h0 n0 _ s₁.heap _
                  exact ⟨(by rw [f_ic, if_neg c3_1, if_neg c9_2, if_neg c15_3, if_pos c21_4, if_neg c33_5, if_pos c39_8, if_neg c45_9, if_neg c51_10]), N0, e0⟩
            · refine Wp.back (U' := (s₁.setTop (mkF m 59 #[.val (.int p0)] [(.int (1 : Int32))]))) (fun t k => XS.icmpYes X0.here hx rfl (pc0 := 39) (pc' := 54) rfl (hb hby d1_39) rfl (flt c39_8).2.2.2 (by decide) (by decide) (XT.iconstV X0.here hx rfl (1 : Int32) (hb hby d1_54) (by decide) (XS.goto X0.here hx rfl (pc0 := 55) (pc' := 59) rfl (hb hby d1_55) (by decide) (by decide) k))) ?_
              obtain ⟨fs, hr, hrun, hended, hW, hsame⟩ := X0.leave (v := (some (.int (1 : Int32)))) (fun h => by rw [hret] at h; cases h)
              refine Wp.done (retN X0 hx (t := .boolean) hret (by simp) (hb hby d1_59) hr) hrun hended ⟨_, _, rfl, ?_, ⟨_, rfl⟩, hW, hsame.mono (by decide) (by decide)⟩
              show QP _ h0 n0 _ s₁.heap _
              exact ⟨(by rw [f_ic, if_neg c3_1, if_neg c9_2, if_neg c15_3, if_pos c21_4, if_neg c33_5, if_neg c39_8]), N0, e0⟩
        · refine Wp.back (U' := (s₁.setTop (mkF m 27 #[.val (.int p0)] [(.int (55295 : Int32)), (.int p0)]))) (fun t k => XS.icmpNo X0.here hx rfl (hb hby d1_21) rfl (flt c21_4).1 (XS.iloadN X0.here hx rfl (hb hby d1_24) rfl (Jvm.Stand.ldcI X0 hx hown (mvT hZ (hw _ (List.mem_of_getElem? (i := 23) rfl))) rfl (hb hby d1_25) k))) ?_
          by_cases c27_11 : (55295 : Int32) < p0
          · refine Wp.back (U' := (s₁.setTop (mkF m 33 #[.val (.int p0)] [(.int (57344 : Int32)), (.int p0)]))) (fun t k => XS.icmpNo X0.here hx rfl (hb hby d1_27) rfl (tlt c27_11).2.2.2 (XS.iloadN X0.here hx rfl (hb hby d1_30) rfl (Jvm.Stand.ldcI X0 hx hown (mvT hZ (hw _ (List.mem_of_getElem? (i := 17) rfl))) rfl (hb hby d1_31) k))) ?_
            by_cases c33_12 : p0 < (57344 : Int32)
            · refine Wp.back (U' := (s₁.setTop (mkF m 45 #[.val (.int p0)] [(.int (65536 : Int32)), (.int p0)]))) (fun t k => XS.icmpYes X0.here hx rfl (pc0 := 33) (pc' := 42) rfl (hb hby d1_33) rfl (tlt c33_12).1 (by decide) (by decide) (XS.iloadN X0.here hx rfl (hb hby d1_42) rfl (Jvm.Stand.ldcI X0 hx hown (mvT hZ (hw _ (List.mem_of_getElem? (i := 18) rfl))) rfl (hb hby d1_43) k))) ?_
              by_cases c45_13 : p0 < (65536 : Int32)
              · refine Wp.back (U' := (s₁.setTop (mkF m 59 #[.val (.int p0)] [(.int (0 : Int32))]))) (fun t k => XS.icmpYes X0.here hx rfl (pc0 := 45) (pc' := 58) rfl (hb hby d1_45) rfl (tlt c45_13).1 (by decide) (by decide) (XT.iconstV X0.here hx rfl (0 : Int32) (hb hby d1_58) (by decide) k)) ?_
                obtain ⟨fs, hr, hrun, hended, hW, hsame⟩ := X0.leave (v := (some (.int (0 : Int32)))) (fun h => by rw [hret] at h; cases h)
                refine Wp.done (retN X0 hx (t := .boolean) hret (by simp) (hb hby d1_59) hr) hrun hended ⟨_, _, rfl, ?_, ⟨_, rfl⟩, hW, hsame.mono (by decide) (by decide)⟩
                show QP _ h0 n0 _ s₁.heap _
                exact ⟨(by rw [f_ic, if_neg c3_1, if_neg c9_2, if_neg c15_3, if_neg c21_4, if_pos c27_11, if_pos c33_12, if_pos c45_13]), N0, e0⟩
              · refine Wp.back (U' := (s₁.setTop (mkF m 51 #[.val (.int p0)] [(.int (1114111 : Int32)), (.int p0)]))) (fun t k => XS.icmpNo X0.here hx rfl (hb hby d1_45) rfl (flt c45_13).1 (XS.iloadN X0.here hx rfl (hb hby d1_48) rfl (Jvm.Stand.ldcI X0 hx hown (mvT hZ (hw _ (List.mem_of_getElem? (i := 25) rfl))) rfl (hb hby d1_49) k))) ?_
                by_cases c51_14 : (1114111 : Int32) < p0
                · refine Wp.back (U' := (s₁.setTop (mkF m 59 #[.val (.int p0)] [(.int (0 : Int32))]))) (fun t k => XS.icmpYes X0.here hx rfl (pc0 := 51) (pc' := 58) rfl (hb hby d1_51) rfl (tlt c51_14).2.2.1 (by decide) (by decide) (XT.iconstV X0.here hx rfl (0 : Int32) (hb hby d1_58) (by decide) k)) ?_
                  obtain ⟨fs, hr, hrun, hended, hW, hsame⟩ := X0.leave (v := (some (.int (0 : Int32)))) (fun h => by rw [hret] at h; cases h)
                  refine Wp.done (retN X0 hx (t := .boolean) hret (by simp) (hb hby d1_59) hr) hrun hended ⟨_, _, rfl, ?_, ⟨_, rfl⟩, hW, hsame.mono (by decide) (by decide)⟩
                  show QP _ h0 n0 _ s₁.heap _
                  exact ⟨(by rw [f_ic, if_neg c3_1, if_neg c9_2, if_neg c15_3, if_neg c21_4, if_pos c27_11, if_pos c33_12, if_neg c45_13, if_pos c51_14]), N0, e0⟩
                · refine Wp.back (U' := (s₁.setTop (mkF m 59 #[.val (.int p0)] [(.int (1 : Int32))]))) (fun t k => XS.icmpNo X0.here hx rfl (hb hby d1_51) rfl (flt c51_14).2.2.1 (XT.iconstV X0.here hx rfl (1 : Int32) (hb hby d1_54) (by decide) (XS.goto X0.here hx rfl (pc0 := 55) (pc' := 59) rfl (hb hby d1_55) (by decide) (by decide) k))) ?_
                  obtain ⟨fs, hr, hrun, hended, hW, hsame⟩ := X0.leave (v := (some (.int (1 : Int32)))) (fun h => by rw [hret] at h; cases h)
                  refine Wp.done (retN X0 hx (t := .boolean) hret (by simp) (hb hby d1_59) hr) hrun hended ⟨_, _, rfl, ?_, ⟨_, rfl⟩, hW, hsame.mono (by decide) (by decide)⟩
                  show QP _ h0 n0 _ s₁.heap _
                  exact ⟨(by rw [f_ic, if_neg c3_1, if_neg c9_2, if_neg c15_3, if_neg c21_4, if_pos c27_11, if_pos c33_12, if_neg c45_13, if_neg c51_14]), N0, e0⟩
            · refine Wp.back (U' := (s₁.setTop (mkF m 39 #[.val (.int p0)] [(.int (65533 : Int32)), (.int p0)]))) (fun t k => XS.icmpNo X0.here hx rfl (hb hby d1_33) rfl (flt c33_12).1 (XS.iloadN X0.here hx rfl (hb hby d1_36) rfl (Jvm.Stand.ldcI X0 hx hown (mvT hZ (hw _ (List.mem_of_getElem? (i := 24) rfl))) rfl (hb hby d1_37) k))) ?_
              by_cases c39_15 : (65533 : Int32) < p0
              · refine Wp.back (U' := (s₁.setTop (mkF m 45 #[.val (.int p0)] [(.int (65536 : Int32)), (.int p0)]))) (fun t k => XS.icmpNo X0.here hx rfl (hb hby d1_39) rfl (tlt c39_15).2.2.2 (XS.iloadN X0.here hx rfl (hb hby d1_42) rfl (Jvm.Stand.ldcI X0 hx hown (mvT hZ (hw _ (List.mem_of_getElem? (i := 18) rfl))) rfl (hb hby d1_43) k))) ?_
                by_cases c45_16 : p0 < (65536 : Int32)
                · refine Wp.back (U' := (s₁.setTop (mkF m 59 #[.val (.int p0)] [(.int (0 : Int32))]))) (fun t k => XS.icmpYes X0.here hx rfl (pc0 := 45) (pc' := 58) rfl (hb hby d1_45) rfl (tlt c45_16).1 (by decide) (by decide) (XT.iconstV X0.here hx rfl (0 : Int32) (hb hby d1_58) (by decide) k)) ?_
                  obtain ⟨fs, hr, hrun, hended, hW, hsame⟩ := X0.leave (v := (some (.int (0 : Int32)))) (fun h => by rw [hret] at h; cases h)
                  refine Wp.done (retN X0 hx (t := .boolean) hret (by simp) (hb hby d1_59) hr) hrun hended ⟨_, _, rfl, ?_, ⟨_, rfl⟩, hW, hsame.mono (by decide) (by decide)⟩
                  show QP _ h0 n0 _ s₁.heap _
                  exact ⟨(by rw [f_ic, if_neg c3_1, if_neg c9_2, if_neg c15_3, if_neg c21_4, if_pos c27_11, if_neg c33_12, if_pos c39_15, if_pos c45_16]), N0, e0⟩
                · refine Wp.back (U' := (s₁.setTop (mkF m 51 #[.val (.int p0)] [(.int (1114111 : Int32)), (.int p0)]))) (fun t k => XS.icmpNo X0.here hx rfl (hb hby d1_45) rfl (flt c45_16).1 (XS.iloadN X0.here hx rfl (hb hby d1_48) rfl (Jvm.Stand.ldcI X0 hx hown (mvT hZ (hw _ (List.mem_of_getElem? (i := 25) rfl))) rfl (hb hby d1_49) k))) ?_
                  by_cases c51_17 : (1114111 : Int32) < p0
                  · refine Wp.back (U' := (s₁.setTop (mkF m 59 #[.val (.int p0)] [(.int (0 : Int32))]))) (fun t k => XS.icmpYes X0.here hx rfl (pc0 := 51) (pc' := 58) rfl (hb hby d1_51) rfl (tlt c51_17).2.2.1 (by decide) (by decide) (XT.iconstV X0.here hx rfl (0 : Int32) (hb hby d1_58) (by decide) k)) ?_
                    obtain ⟨fs, hr, hrun, hended, hW, hsame⟩ := X0.leave (v := (some (.int (0 : Int32)))) (fun h => by rw [hret] at h; cases h)
                    refine Wp.done (retN X0 hx (t := .boolean) hret (by simp) (hb hby d1_59) hr) hrun hended ⟨_, _, rfl, ?_, ⟨_, rfl⟩, hW, hsame.mono (by decide) (by decide)⟩
                    show QP _ h0 n0 _ s₁.heap _
                    exact ⟨(by rw [f_ic, if_neg c3_1, if_neg c9_2, if_neg c15_3, if_neg c21_4, if_pos c27_11, if_neg c33_12, if_pos c39_15, if_neg c45_16, if_pos c51_17]), N0, e0⟩
                  · refine Wp.back (U' := (s₁.setTop (mkF m 59 #[.val (.int p0)] [(.int (1 : Int32))]))) (fun t k => XS.icmpNo X0.here hx rfl (hb hby d1_51) rfl (flt c51_17).2.2.1 (XT.iconstV X0.here hx rfl (1 : Int32) (hb hby d1_54) (by decide) (XS.goto X0.here hx rfl (pc0 := 55) (pc' := 59) rfl (hb hby d1_55) (by decide) (by decide) k))) ?_
                    obtain ⟨fs, hr, hrun, hended, hW, hsame⟩ := X0.leave (v := (some (.int (1 : Int32)))) (fun h => by rw [hret] at h; cases h)
                    refine Wp.done (retN X0 hx (t := .boolean) hret (by simp) (hb hby d1_59) hr) hrun hended ⟨_, _, rfl, ?_, ⟨_, rfl⟩, hW, hsame.mono (by decide) (by decide)⟩
                    show QP _ h0 n0 _ s₁.heap _
                    exact ⟨(by rw [f_ic, if_neg c3_1, if_neg c9_2, if_neg c15_3, if_neg c21_4, if_pos c27_11, if_neg c33_12, if_pos c39_15, if_neg c45_16, if_neg c51_17]), N0, e0⟩
              · refine Wp.back (U' := (s₁.setTop (mkF m 59 #[.val (.int p0)] [(.int (1 : Int32))]))) (fun t k => XS.icmpYes X0.here hx rfl (pc0 := 39) (pc' := 54) rfl (hb hby d1_39) rfl (flt c39_15).2.2.2 (by decide) (by decide) (XT.iconstV X0.here hx rfl (1 : Int32) (hb hby d1_54) (by decide) (XS.goto X0.here hx rfl (pc0 := 55) (pc' := 59) rfl (hb hby d1_55) (by decide) (by decide) k))) ?_
                obtain ⟨fs, hr, hrun, hended, hW, hsame⟩ := X0.leave (v := (some (.int (1 : Int32)))) (fun h => by rw [hret] at h; cases h)
                refine Wp.done (retN X0 hx (t := .boolean) hret (by simp) (hb hby d1_59) hr) hrun hended ⟨_, _, rfl, ?_, ⟨_, rfl⟩, hW, hsame.mono (by decide) (by decide)⟩
                show QP _ h0 n0 _ s₁.heap _
                exact ⟨(by rw [f_ic, if_neg c3_1, if_neg c9_2, if_neg c15_3, if_neg c21_4, if_pos c27_11, if_neg c33_12, if_neg c39_15]), N0, e0⟩
          · refine Wp.back (U' := (s₁.setTop (mkF m 59 #[.val (.int p0)] [(.int (1 : Int32))]))) (fun t k => XS.icmpYes X0.here hx rfl (pc0 := 27) (pc' := 54) rfl (hb hby d1_27) rfl (flt c27_11).2.2.2 (by decide) (by decide) (XT.iconstV X0.here hx rfl (1 : Int32) (hb hby d1_54) (by decide) (XS.goto X0.here hx rfl (pc0 := 55) (pc' := 59) rfl (hb hby d1_55) (by decide) (by decide) k))) ?_
            obtain ⟨fs, hr, hrun, hended, hW, hsame⟩ := X0.leave (v := (some (.int (1 : Int32)))) (fun h => by rw [hret] at h; cases h)
            refine Wp.done (retN X0 hx (t := .boolean) hret (by simp) (hb hby d1_59) hr) hrun hended ⟨_, _, rfl, ?_, ⟨_, rfl⟩, hW, hsame.mono (by decide) (by decide)⟩
            show QP _ h0 n0 _ s₁.heap _
            exact ⟨(by rw [f_ic, if_neg c3_1, if_neg c9_2, if_neg c15_3, if_neg c21_4, if_neg c27_11]), N0, e0⟩
def f_fb (p0 : Int32) : Int32 := (if p0 < (0 : Int32) then (1 : Int32) else (if p0 < (32 : Int32) then (if p0 = (9 : Int32) then (0 : Int32) else (if p0 = (10 : Int32) then (0 : Int32) else (if p0 = (13 : Int32) then (0 : Int32) else (1 : Int32)))) else (if p0 < (55296 : Int32) then (if p0 = (65534 : Int32) then (1 : Int32) else (if p0 = (65535 : Int32) then (1 : Int32) else (if (1114111 : Int32) < p0 then (1 : Int32) else (0 : Int32)))) else (if (57343 : Int32) < p0 then (if p0 = (65534 : Int32) then (1 : Int32) else (if p0 = (65535 : Int32) then (1 : Int32) else (if (1114111 : Int32) < p0 then (1 : Int32) else (0 : Int32)))) else (1 : Int32)))))
theorem d2_0 : decode method_2_code 0 = .ok (.iload_n 0, 1) := by decide +kernel
theorem d2_1 : decode method_2_code 1 = .ok (.ifCond .ge 5, 3) := by decide +kernel
theorem d2_4 : decode method_2_code 4 = .ok (.iconst 1, 1) := by decide +kernel
theorem d2_5 : decode method_2_code 5 = .ok (.ireturn, 1) := by decide +kernel
theorem d2_6 : decode method_2_code 6 = .ok (.iload_n 0, 1) := by decide +kernel
theorem d2_7 : decode method_2_code 7 = .ok (.bipush 32, 2) := by decide +kernel
theorem d2_9 : decode method_2_code 9 = .ok (.if_icmp .ge 27, 3) := by decide +kernel
theorem d2_12 : decode method_2_code 12 = .ok (.iload_n 0, 1) := by decide +kernel
theorem d2_13 : decode method_2_code 13 = .ok (.bipush 9, 2) := by decide +kernel
theorem d2_15 : decode method_2_code 15 = .ok (.if_icmp .eq 19, 3) := by decide +kernel
theorem d2_18 : decode method_2_code 18 = .ok (.iload_n 0, 1) := by decide +kernel
theorem d2_19 : decode method_2_code 19 = .ok (.bipush 10, 2) := by decide +kernel
theorem d2_21 : decode method_2_code 21 = .ok (.if_icmp .eq 13, 3) := by decide +kernel
theorem d2_24 : decode method_2_code 24 = .ok (.iload_n 0, 1) := by decide +kernel
theorem d2_25 : decode method_2_code 25 = .ok (.bipush 13, 2) := by decide +kernel
theorem d2_27 : decode method_2_code 27 = .ok (.if_icmp .eq 7, 3) := by decide +kernel
theorem d2_30 : decode method_2_code 30 = .ok (.iconst 1, 1) := by decide +kernel
theorem d2_31 : decode method_2_code 31 = .ok (.goto 4, 3) := by decide +kernel
theorem d2_34 : decode method_2_code 34 = .ok (.iconst 0, 1) := by decide +kernel
theorem d2_35 : decode method_2_code 35 = .ok (.ireturn, 1) := by decide +kernel
theorem d2_36 : decode method_2_code 36 = .ok (.iload_n 0, 1) := by decide +kernel
theorem d2_37 : decode method_2_code 37 = .ok (.ldc 7, 2) := by decide +kernel
theorem d2_39 : decode method_2_code 39 = .ok (.if_icmp .lt 11, 3) := by decide +kernel
theorem d2_42 : decode method_2_code 42 = .ok (.iload_n 0, 1) := by decide +kernel
theorem d2_43 : decode method_2_code 43 = .ok (.ldc 8, 2) := by decide +kernel
theorem d2_45 : decode method_2_code 45 = .ok (.if_icmp .gt 5, 3) := by decide +kernel
theorem d2_48 : decode method_2_code 48 = .ok (.iconst 1, 1) := by decide +kernel
theorem d2_49 : decode method_2_code 49 = .ok (.ireturn, 1) := by decide +kernel
theorem d2_50 : decode method_2_code 50 = .ok (.iload_n 0, 1) := by decide +kernel
theorem d2_51 : decode method_2_code 51 = .ok (.ldc 9, 2) := by decide +kernel
theorem d2_53 : decode method_2_code 53 = .ok (.if_icmp .eq 9, 3) := by decide +kernel
theorem d2_56 : decode method_2_code 56 = .ok (.iload_n 0, 1) := by decide +kernel
theorem d2_57 : decode method_2_code 57 = .ok (.ldc 10, 2) := by decide +kernel
theorem d2_59 : decode method_2_code 59 = .ok (.if_icmp .ne 5, 3) := by decide +kernel
theorem d2_62 : decode method_2_code 62 = .ok (.iconst 1, 1) := by decide +kernel
theorem d2_63 : decode method_2_code 63 = .ok (.ireturn, 1) := by decide +kernel
theorem d2_64 : decode method_2_code 64 = .ok (.iload_n 0, 1) := by decide +kernel
theorem d2_65 : decode method_2_code 65 = .ok (.ldc 11, 2) := by decide +kernel
theorem d2_67 : decode method_2_code 67 = .ok (.if_icmp .le 7, 3) := by decide +kernel
theorem d2_70 : decode method_2_code 70 = .ok (.iconst 1, 1) := by decide +kernel
theorem d2_71 : decode method_2_code 71 = .ok (.goto 4, 3) := by decide +kernel
theorem d2_74 : decode method_2_code 74 = .ok (.iconst 0, 1) := by decide +kernel
theorem d2_75 : decode method_2_code 75 = .ok (.ireturn, 1) := by decide +kernel
theorem pn2 : plainName "com/example/package_registry_reader/packageregistryreader/reader/XmlSyntaxIsCharacterPinLaw" = true := by first | (simp [plainName, overriddenIn]; done) | decide +kernel
theorem ef2 (m : MethodId) (x0 : Int32) : entryFrame m #[(.int x0)] 1 = mkF m 0 #[.val (.int x0)] [] := by first | (simp [entryFrame, mkF, argsToLocals, Value.category]; done) | rfl
set_option maxRecDepth 65536 in
set_option maxHeartbeats 40000000 in
theorem rm_f_fb (l : Launch) (Z : State) (a0 : Array Value) (hw : ∀ d ∈ tables_1, d.before a0 Z = true) (ws : List Jvm.Cond) (p0 : Int32) (h0 : Heap) (n0 : Nat) (Z0 : n0 ≤ h0.size)  :
    MetFree l (⟨"com/example/package_registry_reader/packageregistryreader/reader/XmlSyntaxIsCharacterPinLaw", "forbidden", "(I)Z"⟩ : MethodName) (head1 (Jvm.Cond.code (⟨"com/example/package_registry_reader/packageregistryreader/reader/XmlSyntaxIsCharacterPinLaw", "forbidden", "(I)Z"⟩ : MethodName) method_2_code 1 (some .boolean) :: ws) ({ frames := 0, cells := 0, slots := 0, locals := 0 } : Room)) (fun a U => a = #[(.int p0)] ∧ Z.Warmed39 U.vm ∧ U.heap = h0) (fun _ _ _ _ _ => True) (fun _ U o U' => ∃ v L, o = .returned v ∧ QP (some (.int (f_fb p0))) h0 n0 v U'.heap L ∧ FrameEnd U o U' L ({ frames := 0, cells := 0, slots := 0, locals := 0 } : Room).cells ({ frames := 0, cells := 0, slots := 0, locals := 0 } : Room).slots) := by
  refine MetFree.of_bodySF (plainFor_of_name pn2) hisR ?_
  intro p e s m args below meth c s₁ Bd hml0 hP hK
  obtain ⟨rfl, hZ, hh⟩ := hP
  have hx := Bd.exec
  have hby := Bd.bytes
  have hret := Bd.returns
  have hlk := Bd.notSynchronized
  have hml : c.maxLocals = 1 := hml0
  have hown : s.vm.findClass "com/example/package_registry_reader/packageregistryreader/reader/XmlSyntaxIsCharacterPinLaw" = some m.cls := findClass_of_methodNamed Bd.named
  have hnm := (name_of_methodNamed Bd.named Bd.method).1
  have X0 : Stand p l e ({ frames := 0, cells := 0, slots := 0, locals := 0 } : Room) s m #[(.int p0)] below meth c s₁ [] 0 0 := Stand.of_body Bd
  have e0 : s₁.heap = h0 := by rw [← hh, Bd.state]; rfl
  have N0 := Fr.nil n0
  show Wp p e below (fun o s₂ => ∃ v L, o = .returned v ∧ QP (some (.int (f_fb p0))) h0 n0 v s₂.heap L ∧ FrameEnd s o s₂ L ({ frames := 0, cells := 0, slots := 0, locals := 0 } : Room).cells ({ frames := 0, cells := 0, slots := 0, locals := 0 } : Room).slots) _
  refine Wp.back (U' := (s₁.setTop (mkF m 0 #[.val (.int p0)] []))) (fun t k => castTop (ef2 m p0) k) ?_
  refine Wp.back (U' := (s₁.setTop (mkF m 1 #[.val (.int p0)] [(.int p0)]))) (fun t k => XS.iloadN X0.here hx rfl (hb hby d2_0) rfl k) ?_
  by_cases c1_1 : p0 < (0 : Int32)
  · refine Wp.back (U' := (s₁.setTop (mkF m 5 #[.val (.int p0)] [(.int (1 : Int32))]))) (fun t k => XS.ifNo X0.here hx rfl (hb hby d2_1) rfl ((if0 _ _).trans (tlt c1_1).2.1) (XT.iconstV X0.here hx rfl (1 : Int32) (hb hby d2_4) (by decide) k)) ?_
    obtain ⟨fs, hr, hrun, hended, hW, hsame⟩ := X0.leave (v := (some (.int (1 : Int32)))) (fun h => by rw [hret] at h; cases h)
    refine Wp.done (retN X0 hx (t := .boolean) hret (by simp) (hb hby d2_5) hr) hrun hended ⟨_, _, rfl, ?_, ⟨_, rfl⟩, hW, hsame.mono (by decide) (by decide)⟩
    show QP _ h0 n0 _ s₁.heap _
    exact ⟨(by rw [f_fb, if_pos c1_1]), N0, e0⟩
  · refine Wp.back (U' := (s₁.setTop (mkF m 9 #[.val (.int p0)] [(.int (32 : Int32)), (.int p0)]))) (fun t k => XS.ifYes X0.here hx rfl (pc0 := 1) (pc' := 6) rfl (hb hby d2_1) rfl ((if0 _ _).trans (flt c1_1).2.1) (by decide) (by decide) (XS.iloadN X0.here hx rfl (hb hby d2_6) rfl (XT.bipushV X0.here hx rfl (32 : Int32) (hb hby d2_7) (by decide) k))) ?_
    by_cases c9_2 : p0 < (32 : Int32)
    · refine Wp.back (U' := (s₁.setTop (mkF m 15 #[.val (.int p0)] [(.int (9 : Int32)), (.int p0)]))) (fun t k => XS.icmpNo X0.here hx rfl (hb hby d2_9) rfl (tlt c9_2).2.1 (XS.iloadN X0.here hx rfl (hb hby d2_12) rfl (XT.bipushV X0.here hx rfl (9 : Int32) (hb hby d2_13) (by decide) k))) ?_
      by_cases c15_3 : p0 = (9 : Int32)
      · refine Wp.back (U' := (s₁.setTop (mkF m 35 #[.val (.int p0)] [(.int (0 : Int32))]))) (fun t k => XS.icmpYes X0.here hx rfl (pc0 := 15) (pc' := 34) rfl (hb hby d2_15) rfl (teq c15_3).1 (by decide) (by decide) (XT.iconstV X0.here hx rfl (0 : Int32) (hb hby d2_34) (by decide) k)) ?_
        obtain ⟨fs, hr, hrun, hended, hW, hsame⟩ := X0.leave (v := (some (.int (0 : Int32)))) (fun h => by rw [hret] at h; cases h)
        refine Wp.done (retN X0 hx (t := .boolean) hret (by simp) (hb hby d2_35) hr) hrun hended ⟨_, _, rfl, ?_, ⟨_, rfl⟩, hW, hsame.mono (by decide) (by decide)⟩
        show QP _ h0 n0 _ s₁.heap _
        exact ⟨(by rw [f_fb, if_neg c1_1, if_pos c9_2, if_pos c15_3]), N0, e0⟩
      · refine Wp.back (U' := (s₁.setTop (mkF m 21 #[.val (.int p0)] [(.int (10 : Int32)), (.int p0)]))) (fun t k => XS.icmpNo X0.here hx rfl (hb hby d2_15) rfl (feq c15_3).1 (XS.iloadN X0.here hx rfl (hb hby d2_18) rfl (XT.bipushV X0.here hx rfl (10 : Int32) (hb hby d2_19) (by decide) k))) ?_
        by_cases c21_4 : p0 = (10 : Int32)
        · refine Wp.back (U' := (s₁.setTop (mkF m 35 #[.val (.int p0)] [(.int (0 : Int32))]))) (fun t k => XS.icmpYes X0.here hx rfl (pc0 := 21) (pc' := 34) rfl (hb hby d2_21) rfl (teq c21_4).1 (by decide) (by decide) (XT.iconstV X0.here hx rfl (0 : Int32) (hb hby d2_34) (by decide) k)) ?_
          obtain ⟨fs, hr, hrun, hended, hW, hsame⟩ := X0.leave (v := (some (.int (0 : Int32)))) (fun h => by rw [hret] at h; cases h)
          refine Wp.done (retN X0 hx (t := .boolean) hret (by simp) (hb hby d2_35) hr) hrun hended ⟨_, _, rfl, ?_, ⟨_, rfl⟩, hW, hsame.mono (by decide) (by decide)⟩
          show QP _ h0 n0 _ s₁.heap _
          exact ⟨(by rw [f_fb, if_neg c1_1, if_pos c9_2, if_neg c15_3, if_pos c21_4]), N0, e0⟩
        · refine Wp.back (U' := (s₁.setTop (mkF m 27 #[.val (.int p0)] [(.int (13 : Int32)), (.int p0)]))) (fun t k => XS.icmpNo X0.here hx rfl (hb hby d2_21) rfl (feq c21_4).1 (XS.iloadN X0.here hx rfl (hb hby d2_24) rfl (XT.bipushV X0.here hx rfl (13 : Int32) (hb hby d2_25) (by decide) k))) ?_
          by_cases c27_5 : p0 = (13 : Int32)
          · refine Wp.back (U' := (s₁.setTop (mkF m 35 #[.val (.int p0)] [(.int (0 : Int32))]))) (fun t k => XS.icmpYes X0.here hx rfl (pc0 := 27) (pc' := 34) rfl (hb hby d2_27) rfl (teq c27_5).1 (by decide) (by decide) (XT.iconstV X0.here hx rfl (0 : Int32) (hb hby d2_34) (by decide) k)) ?_
            obtain ⟨fs, hr, hrun, hended, hW, hsame⟩ := X0.leave (v := (some (.int (0 : Int32)))) (fun h => by rw [hret] at h; cases h)
            refine Wp.done (retN X0 hx (t := .boolean) hret (by simp) (hb hby d2_35) hr) hrun hended ⟨_, _, rfl, ?_, ⟨_, rfl⟩, hW, hsame.mono (by decide) (by decide)⟩
            show QP _ h0 n0 _ s₁.heap _
            exact ⟨(by rw [f_fb, if_neg c1_1, if_pos c9_2, if_neg c15_3, if_neg c21_4, if_pos c27_5]), N0, e0⟩
          · refine Wp.back (U' := (s₁.setTop (mkF m 35 #[.val (.int p0)] [(.int (1 : Int32))]))) (fun t k => XS.icmpNo X0.here hx rfl (hb hby d2_27) rfl (feq c27_5).1 (XT.iconstV X0.here hx rfl (1 : Int32) (hb hby d2_30) (by decide) (XS.goto X0.here hx rfl (pc0 := 31) (pc' := 35) rfl (hb hby d2_31) (by decide) (by decide) k))) ?_
            obtain ⟨fs, hr, hrun, hended, hW, hsame⟩ := X0.leave (v := (some (.int (1 : Int32)))) (fun h => by rw [hret] at h; cases h)
            refine Wp.done (retN X0 hx (t := .boolean) hret (by simp) (hb hby d2_35) hr) hrun hended ⟨_, _, rfl, ?_, ⟨_, rfl⟩, hW, hsame.mono (by decide) (by decide)⟩
            show QP _ h0 n0 _ s₁.heap _
            exact ⟨(by rw [f_fb, if_neg c1_1, if_pos c9_2, if_neg c15_3, if_neg c21_4, if_neg c27_5]), N0, e0⟩
    · refine Wp.back (U' := (s₁.setTop (mkF m 39 #[.val (.int p0)] [(.int (55296 : Int32)), (.int p0)]))) (fun t k => XS.icmpYes X0.here hx rfl (pc0 := 9) (pc' := 36) rfl (hb hby d2_9) rfl (flt c9_2).2.1 (by decide) (by decide) (XS.iloadN X0.here hx rfl (hb hby d2_36) rfl (Jvm.Stand.ldcI X0 hx hown (mvT hZ (hw _ (List.mem_of_getElem? (i := 2) rfl))) rfl (hb hby d2_37) k))) ?_
      by_cases c39_6 : p0 < (55296 : Int32)
      · refine Wp.back (U' := (s₁.setTop (mkF m 53 #[.val (.int p0)] [(.int (65534 : Int32)), (.int p0)]))) (fun t k => XS.icmpYes X0.here hx rfl (pc0 := 39) (pc' := 50) rfl (hb hby d2_39) rfl (tlt c39_6).1 (by decide) (by decide) (XS.iloadN X0.here hx rfl (hb hby d2_50) rfl (Jvm.Stand.ldcI X0 hx hown (mvT hZ (hw _ (List.mem_of_getElem? (i := 6) rfl))) rfl (hb hby d2_51) k))) ?_
        by_cases c53_7 : p0 = (65534 : Int32)
        · refine Wp.back (U' := (s₁.setTop (mkF m 63 #[.val (.int p0)] [(.int (1 : Int32))]))) (fun t k => XS.icmpYes X0.here hx rfl (pc0 := 53) (pc' := 62) rfl (hb hby d2_53) rfl (teq c53_7).1 (by decide) (by decide) (XT.iconstV X0.here hx rfl (1 : Int32) (hb hby d2_62) (by decide) k)) ?_
          obtain ⟨fs, hr, hrun, hended, hW, hsame⟩ := X0.leave (v := (some (.int (1 : Int32)))) (fun h => by rw [hret] at h; cases h)
          refine Wp.done (retN X0 hx (t := .boolean) hret (by simp) (hb hby d2_63) hr) hrun hended ⟨_, _, rfl, ?_, ⟨_, rfl⟩, hW, hsame.mono (by decide) (by decide)⟩
          show QP _ h0 n0 _ s₁.heap _
          exact ⟨(by rw [f_fb, if_neg c1_1, if_neg c9_2, if_pos c39_6, if_pos c53_7]), N0, e0⟩
        · refine Wp.back (U' := (s₁.setTop (mkF m 59 #[.val (.int p0)] [(.int (65535 : Int32)), (.int p0)]))) (fun t k => XS.icmpNo X0.here hx rfl (hb hby d2_53) rfl (feq c53_7).1 (XS.iloadN X0.here hx rfl (hb hby d2_56) rfl (Jvm.Stand.ldcI X0 hx hown (mvT hZ (hw _ (List.mem_of_getElem? (i := 7) rfl))) rfl (hb hby d2_57) k))) ?_
          by_cases c59_8 : p0 = (65535 : Int32)
          · refine Wp.back (U' := (s₁.setTop (mkF m 63 #[.val (.int p0)] [(.int (1 : Int32))]))) (fun t k => XS.icmpNo X0.here hx rfl (hb hby d2_59) rfl (teq c59_8).2 (XT.iconstV X0.here hx rfl (1 : Int32) (hb hby d2_62) (by decide) k)) ?_
            obtain ⟨fs, hr, hrun, hended, hW, hsame⟩ := X0.leave (v := (some (.int (1 : Int32)))) (fun h => by rw [hret] at h; cases h)
            refine Wp.done (retN X0 hx (t := .boolean) hret (by simp) (hb hby d2_63) hr) hrun hended ⟨_, _, rfl, ?_, ⟨_, rfl⟩, hW, hsame.mono (by decide) (by decide)⟩
            show QP _ h0 n0 _ s₁.heap _
            exact ⟨(by rw [f_fb, if_neg c1_1, if_neg c9_2, if_pos c39_6, if_neg c53_7, if_pos c59_8]), N0, e0⟩
          · refine Wp.back (U' := (s₁.setTop (mkF m 67 #[.val (.int p0)] [(.int (1114111 : Int32)), (.int p0)]))) (fun t k => XS.icmpYes X0.here hx rfl (pc0 := 59) (pc' := 64) rfl (hb hby d2_59) rfl (feq c59_8).2 (by decide) (by decide) (XS.iloadN X0.here hx rfl (hb hby d2_64) rfl (Jvm.Stand.ldcI X0 hx hown (mvT hZ (hw _ (List.mem_of_getElem? (i := 9) rfl))) rfl (hb hby d2_65) k))) ?_
            by_cases c67_9 : (1114111 : Int32) < p0
            · refine Wp.back (U' := (s₁.setTop (mkF m 75 #[.val (.int p0)] [(.int (1 : Int32))]))) (fun t k => XS.icmpNo X0.here hx rfl (hb hby d2_67) rfl (tlt c67_9).2.2.2 (XT.iconstV X0.here hx rfl (1 : Int32) (hb hby d2_70) (by decide) (XS.goto X0.here hx rfl (pc0 := 71) (pc' := 75) rfl (hb hby d2_71) (by decide) (by decide) k))) ?_
              obtain ⟨fs, hr, hrun, hended, hW, hsame⟩ := X0.leave (v := (some (.int (1 : Int32)))) (fun h => by rw [hret] at h; cases h)
              refine Wp.done (retN X0 hx (t := .boolean) hret (by simp) (hb hby d2_75) hr) hrun hended ⟨_, _, rfl, ?_, ⟨_, rfl⟩, hW, hsame.mono (by decide) (by decide)⟩
              show QP _ h0 n0 _ s₁.heap _
              exact ⟨(by rw [f_fb, if_neg c1_1, if_neg c9_2, if_pos c39_6, if_neg c53_7, if_neg c59_8, if_pos c67_9]), N0, e0⟩
            · refine Wp.back (U' := (s₁.setTop (mkF m 75 #[.val (.int p0)] [(.int (0 : Int32))]))) (fun t k => XS.icmpYes X0.here hx rfl (pc0 := 67) (pc' := 74) rfl (hb hby d2_67) rfl (flt c67_9).2.2.2 (by decide) (by decide) (XT.iconstV X0.here hx rfl (0 : Int32) (hb hby d2_74) (by decide) k)) ?_
              obtain ⟨fs, hr, hrun, hended, hW, hsame⟩ := X0.leave (v := (some (.int (0 : Int32)))) (fun h => by rw [hret] at h; cases h)
              refine Wp.done (retN X0 hx (t := .boolean) hret (by simp) (hb hby d2_75) hr) hrun hended ⟨_, _, rfl, ?_, ⟨_, rfl⟩, hW, hsame.mono (by decide) (by decide)⟩
              show QP _ h0 n0 _ s₁.heap _
              exact ⟨(by rw [f_fb, if_neg c1_1, if_neg c9_2, if_pos c39_6, if_neg c53_7, if_neg c59_8, if_neg c67_9]), N0, e0⟩
      · refine Wp.back (U' := (s₁.setTop (mkF m 45 #[.val (.int p0)] [(.int (57343 : Int32)), (.int p0)]))) (fun t k => XS.icmpNo X0.here hx rfl (hb hby d2_39) rfl (flt c39_6).1 (XS.iloadN X0.here hx rfl (hb hby d2_42) rfl (Jvm.Stand.ldcI X0 hx hown (mvT hZ (hw _ (List.mem_of_getElem? (i := 3) rfl))) rfl (hb hby d2_43) k))) ?_
        by_cases c45_10 : (57343 : Int32) < p0
        · refine Wp.back (U' := (s₁.setTop (mkF m 53 #[.val (.int p0)] [(.int (65534 : Int32)), (.int p0)]))) (fun t k => XS.icmpYes X0.here hx rfl (pc0 := 45) (pc' := 50) rfl (hb hby d2_45) rfl (tlt c45_10).2.2.1 (by decide) (by decide) (XS.iloadN X0.here hx rfl (hb hby d2_50) rfl (Jvm.Stand.ldcI X0 hx hown (mvT hZ (hw _ (List.mem_of_getElem? (i := 6) rfl))) rfl (hb hby d2_51) k))) ?_
          by_cases c53_11 : p0 = (65534 : Int32)
          · refine Wp.back (U' := (s₁.setTop (mkF m 63 #[.val (.int p0)] [(.int (1 : Int32))]))) (fun t k => XS.icmpYes X0.here hx rfl (pc0 := 53) (pc' := 62) rfl (hb hby d2_53) rfl (teq c53_11).1 (by decide) (by decide) (XT.iconstV X0.here hx rfl (1 : Int32) (hb hby d2_62) (by decide) k)) ?_
            obtain ⟨fs, hr, hrun, hended, hW, hsame⟩ := X0.leave (v := (some (.int (1 : Int32)))) (fun h => by rw [hret] at h; cases h)
            refine Wp.done (retN X0 hx (t := .boolean) hret (by simp) (hb hby d2_63) hr) hrun hended ⟨_, _, rfl, ?_, ⟨_, rfl⟩, hW, hsame.mono (by decide) (by decide)⟩
            show QP _ h0 n0 _ s₁.heap _
            exact ⟨(by rw [f_fb, if_neg c1_1, if_neg c9_2, if_neg c39_6, if_pos c45_10, if_pos c53_11]), N0, e0⟩
          · refine Wp.back (U' := (s₁.setTop (mkF m 59 #[.val (.int p0)] [(.int (65535 : Int32)), (.int p0)]))) (fun t k => XS.icmpNo X0.here hx rfl (hb hby d2_53) rfl (feq c53_11).1 (XS.iloadN X0.here hx rfl (hb hby d2_56) rfl (Jvm.Stand.ldcI X0 hx hown (mvT hZ (hw _ (List.mem_of_getElem? (i := 7) rfl))) rfl (hb hby d2_57) k))) ?_
            by_cases c59_12 : p0 = (65535 : Int32)
            · refine Wp.back (U' := (s₁.setTop (mkF m 63 #[.val (.int p0)] [(.int (1 : Int32))]))) (fun t k => XS.icmpNo X0.here hx rfl (hb hby d2_59) rfl (teq c59_12).2 (XT.iconstV X0.here hx rfl (1 : Int32) (hb hby d2_62) (by decide) k)) ?_
              obtain ⟨fs, hr, hrun, hended, hW, hsame⟩ := X0.leave (v := (some (.int (1 : Int32)))) (fun h => by rw [hret] at h; cases h)
              refine Wp.done (retN X0 hx (t := .boolean) hret (by simp) (hb hby d2_63) hr) hrun hended ⟨_, _, rfl, ?_, ⟨_, rfl⟩, hW, hsame.mono (by decide) (by decide)⟩
              show QP _ h0 n0 _ s₁.heap _
              exact ⟨(by rw [f_fb, if_neg c1_1, if_neg c9_2, if_neg c39_6, if_pos c45_10, if_neg c53_11, if_pos c59_12]), N0, e0⟩
            · refine Wp.back (U' := (s₁.setTop (mkF m 67 #[.val (.int p0)] [(.int (1114111 : Int32)), (.int p0)]))) (fun t k => XS.icmpYes X0.here hx rfl (pc0 := 59) (pc' := 64) rfl (hb hby d2_59) rfl (feq c59_12).2 (by decide) (by decide) (XS.iloadN X0.here hx rfl (hb hby d2_64) rfl (Jvm.Stand.ldcI X0 hx hown (mvT hZ (hw _ (List.mem_of_getElem? (i := 9) rfl))) rfl (hb hby d2_65) k))) ?_
              by_cases c67_13 : (1114111 : Int32) < p0
              · refine Wp.back (U' := (s₁.setTop (mkF m 75 #[.val (.int p0)] [(.int (1 : Int32))]))) (fun t k => XS.icmpNo X0.here hx rfl (hb hby d2_67) rfl (tlt c67_13).2.2.2 (XT.iconstV X0.here hx rfl (1 : Int32) (hb hby d2_70) (by decide) (XS.goto X0.here hx rfl (pc0 := 71) (pc' := 75) rfl (hb hby d2_71) (by decide) (by decide) k))) ?_
                obtain ⟨fs, hr, hrun, hended, hW, hsame⟩ := X0.leave (v := (some (.int (1 : Int32)))) (fun h => by rw [hret] at h; cases h)
                refine Wp.done (retN X0 hx (t := .boolean) hret (by simp) (hb hby d2_75) hr) hrun hended ⟨_, _, rfl, ?_, ⟨_, rfl⟩, hW, hsame.mono (by decide) (by decide)⟩
                show QP _ h0 n0 _ s₁.heap _
                exact ⟨(by rw [f_fb, if_neg c1_1, if_neg c9_2, if_neg c39_6, if_pos c45_10, if_neg c53_11, if_neg c59_12, if_pos c67_13]), N0, e0⟩
              · refine Wp.back (U' := (s₁.setTop (mkF m 75 #[.val (.int p0)] [(.int (0 : Int32))]))) (fun t k => XS.icmpYes X0.here hx rfl (pc0 := 67) (pc' := 74) rfl (hb hby d2_67) rfl (flt c67_13).2.2.2 (by decide) (by decide) (XT.iconstV X0.here hx rfl (0 : Int32) (hb hby d2_74) (by decide) k)) ?_
                obtain ⟨fs, hr, hrun, hended, hW, hsame⟩ := X0.leave (v := (some (.int (0 : Int32)))) (fun h => by rw [hret] at h; cases h)
                refine Wp.done (retN X0 hx (t := .boolean) hret (by simp) (hb hby d2_75) hr) hrun hended ⟨_, _, rfl, ?_, ⟨_, rfl⟩, hW, hsame.mono (by decide) (by decide)⟩
                show QP _ h0 n0 _ s₁.heap _
                exact ⟨(by rw [f_fb, if_neg c1_1, if_neg c9_2, if_neg c39_6, if_pos c45_10, if_neg c53_11, if_neg c59_12, if_neg c67_13]), N0, e0⟩
        · refine Wp.back (U' := (s₁.setTop (mkF m 49 #[.val (.int p0)] [(.int (1 : Int32))]))) (fun t k => XS.icmpNo X0.here hx rfl (hb hby d2_45) rfl (flt c45_10).2.2.1 (XT.iconstV X0.here hx rfl (1 : Int32) (hb hby d2_48) (by decide) k)) ?_
          obtain ⟨fs, hr, hrun, hended, hW, hsame⟩ := X0.leave (v := (some (.int (1 : Int32)))) (fun h => by rw [hret] at h; cases h)
          refine Wp.done (retN X0 hx (t := .boolean) hret (by simp) (hb hby d2_49) hr) hrun hended ⟨_, _, rfl, ?_, ⟨_, rfl⟩, hW, hsame.mono (by decide) (by decide)⟩
          show QP _ h0 n0 _ s₁.heap _
          exact ⟨(by rw [f_fb, if_neg c1_1, if_neg c9_2, if_neg c39_6, if_neg c45_10]), N0, e0⟩
def own_ok (k : Int) : Prop := k = 9 ∨ k = 10 ∨ k = 13 ∨ (32 ≤ k ∧ k ≤ 55295) ∨ (57344 ≤ k ∧ k ≤ 65533) ∨ (65536 ≤ k ∧ k ≤ 1114111)
set_option maxHeartbeats 4000000 in
theorem own_ic (c : Int32) : (own_ok c.toInt → f_ic c = 1) ∧ (¬ own_ok c.toInt → f_ic c = 0) := by
  have e0 : (32 : Int32).toInt = 32 := by decide
  have e1 : (55295 : Int32).toInt = 55295 := by decide
  have e2 : (55296 : Int32).toInt = 55296 := by decide
  have e3 : (57343 : Int32).toInt = 57343 := by decide
  have e4 : (57344 : Int32).toInt = 57344 := by decide
  have e5 : (65533 : Int32).toInt = 65533 := by decide
  have e6 : (65534 : Int32).toInt = 65534 := by decide
  have e7 : (65535 : Int32).toInt = 65535 := by decide
  have e8 : (65536 : Int32).toInt = 65536 := by decide
  have e9 : (1114111 : Int32).toInt = 1114111 := by decide
  have e10 : (0 : Int32).toInt = 0 := by decide
  have e11 : (9 : Int32).toInt = 9 := by decide
  have e12 : (10 : Int32).toInt = 10 := by decide
  have e13 : (13 : Int32).toInt = 13 := by decide
  unfold f_ic own_ok
  simp only [Int32.lt_iff_toInt_lt, ← Int32.toInt_inj, e0, e1, e2, e3, e4, e5, e6, e7, e8, e9, e10, e11, e12, e13]
  generalize c.toInt = k
  constructor
  · intro h
    repeat' split
    all_goals first | rfl | (exfalso; omega)
  · intro h
    repeat' split
    all_goals first | rfl | (exfalso; omega)
set_option maxHeartbeats 4000000 in
theorem own_fb (c : Int32) : (own_ok c.toInt → f_fb c = 0) ∧ (¬ own_ok c.toInt → f_fb c = 1) := by
  have e0 : (32 : Int32).toInt = 32 := by decide
  have e1 : (55295 : Int32).toInt = 55295 := by decide
  have e2 : (55296 : Int32).toInt = 55296 := by decide
  have e3 : (57343 : Int32).toInt = 57343 := by decide
  have e4 : (57344 : Int32).toInt = 57344 := by decide
  have e5 : (65533 : Int32).toInt = 65533 := by decide
  have e6 : (65534 : Int32).toInt = 65534 := by decide
  have e7 : (65535 : Int32).toInt = 65535 := by decide
  have e8 : (65536 : Int32).toInt = 65536 := by decide
  have e9 : (1114111 : Int32).toInt = 1114111 := by decide
  have e10 : (0 : Int32).toInt = 0 := by decide
  have e11 : (9 : Int32).toInt = 9 := by decide
  have e12 : (10 : Int32).toInt = 10 := by decide
  have e13 : (13 : Int32).toInt = 13 := by decide
  unfold f_fb own_ok
  simp only [Int32.lt_iff_toInt_lt, ← Int32.toInt_inj, e0, e1, e2, e3, e4, e5, e6, e7, e8, e9, e10, e11, e12, e13]
  generalize c.toInt = k
  constructor
  · intro h
    repeat' split
    all_goals first | rfl | (exfalso; omega)
  · intro h
    repeat' split
    all_goals first | rfl | (exfalso; omega)
theorem own_cp (c : Int32) : (f_fb c = 0 → f_ic c = 1) ∧ (¬ f_fb c = 0 → f_ic c = 0) := by
  by_cases h : own_ok c.toInt
  · rw [(own_ic c).1 h, (own_fb c).1 h]
    exact ⟨fun _ => rfl, fun q => absurd rfl q⟩
  · rw [(own_ic c).2 h, (own_fb c).2 h]
    exact ⟨fun q => absurd q (by decide), fun _ => rfl⟩
theorem own_ix (x : Int32) : ¬ (((((x).toUInt32 >>> ((1 : Int32) &&& 31).toUInt32).toInt32) &&& (2147483647 : Int32)) % (17 : Int32)) < 0 ∧ (((((x).toUInt32 >>> ((1 : Int32) &&& 31).toUInt32).toInt32) &&& (2147483647 : Int32)) % (17 : Int32)) < (17 : Int32) := by
  generalize ((x).toUInt32 >>> ((1 : Int32) &&& 31).toUInt32).toInt32 = y
  have h1 := c_mask y 2147483647 31 (by decide) (by decide)
  have h2 := (c_irem (y &&& 2147483647) 17 17 (by decide)).1 (by omega)
  have e1 : (0 : Int32).toInt = 0 := by decide
  have e2 : (17 : Int32).toInt = 17 := by decide
  rw [Int32.lt_iff_toInt_lt, Int32.lt_iff_toInt_lt]
  omega
theorem pd0_0 : parseMethodDescriptor "(I)Z" = some ⟨[.int], some .boolean⟩ := by decide +kernel
theorem pn0 : plainName "com/example/package_registry_reader/packageregistryreader/reader/XmlSyntaxIsCharacterPinLaw" = true := by first | (simp [plainName, overriddenIn]; done) | decide +kernel
theorem ef0 (m : MethodId) (x0 : Int32) (x1 : Int32) (x2 : Int32) : entryFrame m #[(.int x0), (.int x1), (.int x2)] maxLocals = mkF m 0 #[.val (.int x0), .val (.int x1), .val (.int x2), .unset, .unset] [] := by first | (simp [entryFrame, mkF, argsToLocals, Value.category, maxLocals]; done) | rfl
set_option maxRecDepth 65536 in
set_option maxHeartbeats 40000000 in
theorem rm_law (l : Launch) (Z : State) (a0 : Array Value) (hw : ∀ d ∈ tables_1, d.before a0 Z = true) (ws : List Jvm.Cond) (p0 : Int32) (p1 : Int32) (p2 : Int32)  (h0 : Heap) (n0 : Nat) (Z0 : n0 ≤ h0.size)  :
    MetFree l x (head1 (Jvm.Cond.code x code maxLocals ret :: ws) room_1) (fun a U => a = #[(.int p0), (.int p1), (.int p2)] ∧ Z.Warmed39 U.vm ∧ U.heap = h0) (fun _ _ _ _ _ => True) (fun _ U o U' => ∃ v L, o = .returned v ∧ QL n0 v U'.heap L ∧ FrameEnd U o U' L 16 128) := by
  refine MetFree.of_bodySF (plainFor_of_name pn0) hisR ?_
  intro p e s m args below meth c s₁ Bd hml0 hP hK
  obtain ⟨rfl, hZ, hh⟩ := hP
  have hx := Bd.exec
  have hby := Bd.bytes
  have hret := Bd.returns
  have hlk := Bd.notSynchronized
  have hml : c.maxLocals = 5 := hml0
  have hown : s.vm.findClass "com/example/package_registry_reader/packageregistryreader/reader/XmlSyntaxIsCharacterPinLaw" = some m.cls := findClass_of_methodNamed Bd.named
  have hnm := (name_of_methodNamed Bd.named Bd.method).1
  have X0 : Stand p l e room_1 s m #[(.int p0), (.int p1), (.int p2)] below meth c s₁ [] 0 0 := Stand.of_body Bd
  have e0 : s₁.heap = h0 := by rw [← hh, Bd.state]; rfl
  have N0 := Fr.nil n0
  show Wp p e below (fun o s₂ => ∃ v L, o = .returned v ∧ QL n0 v s₂.heap L ∧ FrameEnd s o s₂ L 16 128) _
  refine Wp.back (U' := (s₁.setTop (mkF m 0 #[.val (.int p0), .val (.int p1), .val (.int p2), .unset, .unset] []))) (fun t k => castTop (ef0 m p0 p1 p2) k) ?_
  refine Wp.back (U' := (s₁.setTop (mkF m 2 #[.val (.int p0), .val (.int p1), .val (.int p2), .unset, .unset] [(.int (17 : Int32))]))) (fun t k => XT.bipushV X0.here hx rfl (17 : Int32) (hb hby at_0) (by decide) k) ?_
  obtain ⟨T1, h1, k1, X1, e1, E1, A1, st1⟩ := newP X0 hx hZ (hw _ (List.mem_of_getElem? (i := 0) rfl)) e0 (g := (mkF m 2 #[.val (.int p0), .val (.int p1), .val (.int p2), .unset, .unset] [(.int (17 : Int32))])) rfl (hb hby at_2) rfl (by decide) (cap := 17) (by decide) (by decide) (by decide) (by decide)
  obtain ⟨b1, g1⟩ : ∃ z, z = h0.size := ⟨_, rfl⟩
  rw [← g1] at A1 st1
  have g_b1 : n0 ≤ b1 := Nat.le_trans Z0 (Nat.le_of_eq g1.symm)
  have f2_0 := Nat.le_trans Z0 E1.1
  have V1 : Arv Z h1 b1 k1 .int (17 : Int32) [(.int (0 : Int32)), (.int (0 : Int32)), (.int (0 : Int32)), (.int (0 : Int32)), (.int (0 : Int32)), (.int (0 : Int32)), (.int (0 : Int32)), (.int (0 : Int32)), (.int (0 : Int32)), (.int (0 : Int32)), (.int (0 : Int32)), (.int (0 : Int32)), (.int (0 : Int32)), (.int (0 : Int32)), (.int (0 : Int32)), (.int (0 : Int32)), (.int (0 : Int32))] (.int (0 : Int32)) := (Arv.new A1 (by decide)).pad (pad_rep [] (.int (0 : Int32)) 17)
  refine Wp.back (U' := (T1.setTop (mkF m 4 #[.val (.int p0), .val (.int p1), .val (.int p2), .unset, .unset] [(.ref b1)]))) st1 ?_
  refine Wp.back (U' := (T1.setTop (mkF m 7 #[.val (.int p0), .val (.int p1), .val (.int p2), .unset, .unset] [(.int (0 : Int32)), (.int (0 : Int32)), (.ref b1), (.ref b1)]))) (fun t k => XS.dup X1.here hx rfl (hb hby at_4) rfl rfl (XT.iconstV X1.here hx rfl (0 : Int32) (hb hby at_5) (by decide) (XT.iconstV X1.here hx rfl (0 : Int32) (hb hby at_6) (by decide) k))) ?_
  have vq3 := V1
  obtain ⟨cl3, Ar3, qa3, qs3, qn3, qh3, qg3⟩ := vq3
  have hin3 : ¬ ((0 : Int32) < 0 ∨ cl3.slots.size ≤ ((0 : Int32)).toNatClampNeg) := inb_of qs3 ⟨by decide, by decide⟩
  obtain ⟨T3, h3, X3, e3, W3, st3⟩ := stI X1 hx hZ e1 Ar3 (j := (0 : Int32)) hin3 (g := (mkF m 7 #[.val (.int p0), .val (.int p1), .val (.int p2), .unset, .unset] [(.int (0 : Int32)), (.int (0 : Int32)), (.ref b1), (.ref b1)])) rfl rfl (hb hby at_7)
  have V3 : Arv Z h3 b1 k1 .int (17 : Int32) [(.int (0 : Int32)), (.int (0 : Int32)), (.int (0 : Int32)), (.int (0 : Int32)), (.int (0 : Int32)), (.int (0 : Int32)), (.int (0 : Int32)), (.int (0 : Int32)), (.int (0 : Int32)), (.int (0 : Int32)), (.int (0 : Int32)), (.int (0 : Int32)), (.int (0 : Int32)), (.int (0 : Int32)), (.int (0 : Int32)), (.int (0 : Int32)), (.int (0 : Int32))] (.int (0 : Int32)) := Arv.set Ar3 qa3 qs3 qn3 qh3 qg3 rfl W3 0 rfl (Nat.le_of_ble_eq_true rfl)
  have f4_0 := Nat.le_trans f2_0 (Keep.of_wr W3).1
  have N3 := Fr.snoc X3 N0 g_b1
  refine Wp.back (U' := (T3.setTop (mkF m 8 #[.val (.int p0), .val (.int p1), .val (.int p2), .unset, .unset] [(.ref b1)]))) st3 ?_
  refine Wp.back (U' := (T3.setTop (mkF m 12 #[.val (.int p0), .val (.int p1), .val (.int p2), .unset, .unset] [(.int (9 : Int32)), (.int (1 : Int32)), (.ref b1), (.ref b1)]))) (fun t k => XS.dup X3.here hx rfl (hb hby at_8) rfl rfl (XT.iconstV X3.here hx rfl (1 : Int32) (hb hby at_9) (by decide) (XT.bipushV X3.here hx rfl (9 : Int32) (hb hby at_10) (by decide) k))) ?_
  have vq5 := V3
  obtain ⟨cl5, Ar5, qa5, qs5, qn5, qh5, qg5⟩ := vq5
  have hin5 : ¬ ((1 : Int32) < 0 ∨ cl5.slots.size ≤ ((1 : Int32)).toNatClampNeg) := inb_of qs5 ⟨by decide, by decide⟩
  obtain ⟨T5, h5, X5, e5, W5, st5⟩ := stI X3 hx hZ e3 Ar5 (j := (1 : Int32)) hin5 (g := (mkF m 12 #[.val (.int p0), .val (.int p1), .val (.int p2), .unset, .unset] [(.int (9 : Int32)), (.int (1 : Int32)), (.ref b1), (.ref b1)])) rfl rfl (hb hby at_12)
  have V5 : Arv Z h5 b1 k1 .int (17 : Int32) [(.int (0 : Int32)), (.int (9 : Int32)), (.int (0 : Int32)), (.int (0 : Int32)), (.int (0 : Int32)), (.int (0 : Int32)), (.int (0 : Int32)), (.int (0 : Int32)), (.int (0 : Int32)), (.int (0 : Int32)), (.int (0 : Int32)), (.int (0 : Int32)), (.int (0 : Int32)), (.int (0 : Int32)), (.int (0 : Int32)), (.int (0 : Int32)), (.int (0 : Int32))] (.int (0 : Int32)) := Arv.set Ar5 qa5 qs5 qn5 qh5 qg5 rfl W5 1 rfl (Nat.le_of_ble_eq_true rfl)
  have f6_0 := Nat.le_trans f4_0 (Keep.of_wr W5).1
  have N5 := Fr.snoc X5 N3 g_b1
  refine Wp.back (U' := (T5.setTop (mkF m 13 #[.val (.int p0), .val (.int p1), .val (.int p2), .unset, .unset] [(.ref b1)]))) st5 ?_
  refine Wp.back (U' := (T5.setTop (mkF m 17 #[.val (.int p0), .val (.int p1), .val (.int p2), .unset, .unset] [(.int (10 : Int32)), (.int (2 : Int32)), (.ref b1), (.ref b1)]))) (fun t k => XS.dup X5.here hx rfl (hb hby at_13) rfl rfl (XT.iconstV X5.here hx rfl (2 : Int32) (hb hby at_14) (by decide) (XT.bipushV X5.here hx rfl (10 : Int32) (hb hby at_15) (by decide) k))) ?_
  have vq7 := V5
  obtain ⟨cl7, Ar7, qa7, qs7, qn7, qh7, qg7⟩ := vq7
  have hin7 : ¬ ((2 : Int32) < 0 ∨ cl7.slots.size ≤ ((2 : Int32)).toNatClampNeg) := inb_of qs7 ⟨by decide, by decide⟩
  obtain ⟨T7, h7, X7, e7, W7, st7⟩ := stI X5 hx hZ e5 Ar7 (j := (2 : Int32)) hin7 (g := (mkF m 17 #[.val (.int p0), .val (.int p1), .val (.int p2), .unset, .unset] [(.int (10 : Int32)), (.int (2 : Int32)), (.ref b1), (.ref b1)])) rfl rfl (hb hby at_17)
  have V7 : Arv Z h7 b1 k1 .int (17 : Int32) [(.int (0 : Int32)), (.int (9 : Int32)), (.int (10 : Int32)), (.int (0 : Int32)), (.int (0 : Int32)), (.int (0 : Int32)), (.int (0 : Int32)), (.int (0 : Int32)), (.int (0 : Int32)), (.int (0 : Int32)), (.int (0 : Int32)), (.int (0 : Int32)), (.int (0 : Int32)), (.int (0 : Int32)), (.int (0 : Int32)), (.int (0 : Int32)), (.int (0 : Int32))] (.int (0 : Int32)) := Arv.set Ar7 qa7 qs7 qn7 qh7 qg7 rfl W7 2 rfl (Nat.le_of_ble_eq_true rfl)
  have f8_0 := Nat.le_trans f6_0 (Keep.of_wr W7).1
  have N7 := Fr.snoc X7 N5 g_b1
  refine Wp.back (U' := (T7.setTop (mkF m 18 #[.val (.int p0), .val (.int p1), .val (.int p2), .unset, .unset] [(.ref b1)]))) st7 ?_
  refine Wp.back (U' := (T7.setTop (mkF m 22 #[.val (.int p0), .val (.int p1), .val (.int p2), .unset, .unset] [(.int (13 : Int32)), (.int (3 : Int32)), (.ref b1), (.ref b1)]))) (fun t k => XS.dup X7.here hx rfl (hb hby at_18) rfl rfl (XT.iconstV X7.here hx rfl (3 : Int32) (hb hby at_19) (by decide) (XT.bipushV X7.here hx rfl (13 : Int32) (hb hby at_20) (by decide) k))) ?_
  have vq9 := V7
  obtain ⟨cl9, Ar9, qa9, qs9, qn9, qh9, qg9⟩ := vq9
  have hin9 : ¬ ((3 : Int32) < 0 ∨ cl9.slots.size ≤ ((3 : Int32)).toNatClampNeg) := inb_of qs9 ⟨by decide, by decide⟩
  obtain ⟨T9, h9, X9, e9, W9, st9⟩ := stI X7 hx hZ e7 Ar9 (j := (3 : Int32)) hin9 (g := (mkF m 22 #[.val (.int p0), .val (.int p1), .val (.int p2), .unset, .unset] [(.int (13 : Int32)), (.int (3 : Int32)), (.ref b1), (.ref b1)])) rfl rfl (hb hby at_22)
  have V9 : Arv Z h9 b1 k1 .int (17 : Int32) [(.int (0 : Int32)), (.int (9 : Int32)), (.int (10 : Int32)), (.int (13 : Int32)), (.int (0 : Int32)), (.int (0 : Int32)), (.int (0 : Int32)), (.int (0 : Int32)), (.int (0 : Int32)), (.int (0 : Int32)), (.int (0 : Int32)), (.int (0 : Int32)), (.int (0 : Int32)), (.int (0 : Int32)), (.int (0 : Int32)), (.int (0 : Int32)), (.int (0 : Int32))] (.int (0 : Int32)) := Arv.set Ar9 qa9 qs9 qn9 qh9 qg9 rfl W9 3 rfl (Nat.le_of_ble_eq_true rfl)
  have f10_0 := Nat.le_trans f8_0 (Keep.of_wr W9).1
  have N9 := Fr.snoc X9 N7 g_b1
  refine Wp.back (U' := (T9.setTop (mkF m 23 #[.val (.int p0), .val (.int p1), .val (.int p2), .unset, .unset] [(.ref b1)]))) st9 ?_
  refine Wp.back (U' := (T9.setTop (mkF m 27 #[.val (.int p0), .val (.int p1), .val (.int p2), .unset, .unset] [(.int (32 : Int32)), (.int (4 : Int32)), (.ref b1), (.ref b1)]))) (fun t k => XS.dup X9.here hx rfl (hb hby at_23) rfl rfl (XT.iconstV X9.here hx rfl (4 : Int32) (hb hby at_24) (by decide) (XT.bipushV X9.here hx rfl (32 : Int32) (hb hby at_25) (by decide) k))) ?_
  have vq11 := V9
  obtain ⟨cl11, Ar11, qa11, qs11, qn11, qh11, qg11⟩ := vq11
  have hin11 : ¬ ((4 : Int32) < 0 ∨ cl11.slots.size ≤ ((4 : Int32)).toNatClampNeg) := inb_of qs11 ⟨by decide, by decide⟩
  obtain ⟨T11, h11, X11, e11, W11, st11⟩ := stI X9 hx hZ e9 Ar11 (j := (4 : Int32)) hin11 (g := (mkF m 27 #[.val (.int p0), .val (.int p1), .val (.int p2), .unset, .unset] [(.int (32 : Int32)), (.int (4 : Int32)), (.ref b1), (.ref b1)])) rfl rfl (hb hby at_27)
  have V11 : Arv Z h11 b1 k1 .int (17 : Int32) [(.int (0 : Int32)), (.int (9 : Int32)), (.int (10 : Int32)), (.int (13 : Int32)), (.int (32 : Int32)), (.int (0 : Int32)), (.int (0 : Int32)), (.int (0 : Int32)), (.int (0 : Int32)), (.int (0 : Int32)), (.int (0 : Int32)), (.int (0 : Int32)), (.int (0 : Int32)), (.int (0 : Int32)), (.int (0 : Int32)), (.int (0 : Int32)), (.int (0 : Int32))] (.int (0 : Int32)) := Arv.set Ar11 qa11 qs11 qn11 qh11 qg11 rfl W11 4 rfl (Nat.le_of_ble_eq_true rfl)
  have f12_0 := Nat.le_trans f10_0 (Keep.of_wr W11).1
  have N11 := Fr.snoc X11 N9 g_b1
  refine Wp.back (U' := (T11.setTop (mkF m 28 #[.val (.int p0), .val (.int p1), .val (.int p2), .unset, .unset] [(.ref b1)]))) st11 ?_
  refine Wp.back (U' := (T11.setTop (mkF m 32 #[.val (.int p0), .val (.int p1), .val (.int p2), .unset, .unset] [(.int (55295 : Int32)), (.int (5 : Int32)), (.ref b1), (.ref b1)]))) (fun t k => XS.dup X11.here hx rfl (hb hby at_28) rfl rfl (XT.iconstV X11.here hx rfl (5 : Int32) (hb hby at_29) (by decide) (Jvm.Stand.ldcI X11 hx hown (mvT hZ (hw _ (List.mem_of_getElem? (i := 1) rfl))) rfl (hb hby at_30) k))) ?_
  have vq13 := V11
  obtain ⟨cl13, Ar13, qa13, qs13, qn13, qh13, qg13⟩ := vq13
  have hin13 : ¬ ((5 : Int32) < 0 ∨ cl13.slots.size ≤ ((5 : Int32)).toNatClampNeg) := inb_of qs13 ⟨by decide, by decide⟩
  obtain ⟨T13, h13, X13, e13, W13, st13⟩ := stI X11 hx hZ e11 Ar13 (j := (5 : Int32)) hin13 (g := (mkF m 32 #[.val (.int p0), .val (.int p1), .val (.int p2), .unset, .unset] [(.int (55295 : Int32)), (.int (5 : Int32)), (.ref b1), (.ref b1)])) rfl rfl (hb hby at_32)
  have V13 : Arv Z h13 b1 k1 .int (17 : Int32) [(.int (0 : Int32)), (.int (9 : Int32)), (.int (10 : Int32)), (.int (13 : Int32)), (.int (32 : Int32)), (.int (55295 : Int32)), (.int (0 : Int32)), (.int (0 : Int32)), (.int (0 : Int32)), (.int (0 : Int32)), (.int (0 : Int32)), (.int (0 : Int32)), (.int (0 : Int32)), (.int (0 : Int32)), (.int (0 : Int32)), (.int (0 : Int32)), (.int (0 : Int32))] (.int (0 : Int32)) := Arv.set Ar13 qa13 qs13 qn13 qh13 qg13 rfl W13 5 rfl (Nat.le_of_ble_eq_true rfl)
  have f14_0 := Nat.le_trans f12_0 (Keep.of_wr W13).1
  have N13 := Fr.snoc X13 N11 g_b1
  refine Wp.back (U' := (T13.setTop (mkF m 33 #[.val (.int p0), .val (.int p1), .val (.int p2), .unset, .unset] [(.ref b1)]))) st13 ?_
  refine Wp.back (U' := (T13.setTop (mkF m 38 #[.val (.int p0), .val (.int p1), .val (.int p2), .unset, .unset] [(.int (55296 : Int32)), (.int (6 : Int32)), (.ref b1), (.ref b1)]))) (fun t k => XS.dup X13.here hx rfl (hb hby at_33) rfl rfl (XT.bipushV X13.here hx rfl (6 : Int32) (hb hby at_34) (by decide) (Jvm.Stand.ldcI X13 hx hown (mvT hZ (hw _ (List.mem_of_getElem? (i := 2) rfl))) rfl (hb hby at_36) k))) ?_
  have vq15 := V13
  obtain ⟨cl15, Ar15, qa15, qs15, qn15, qh15, qg15⟩ := vq15
  have hin15 : ¬ ((6 : Int32) < 0 ∨ cl15.slots.size ≤ ((6 : Int32)).toNatClampNeg) := inb_of qs15 ⟨by decide, by decide⟩
  obtain ⟨T15, h15, X15, e15, W15, st15⟩ := stI X13 hx hZ e13 Ar15 (j := (6 : Int32)) hin15 (g := (mkF m 38 #[.val (.int p0), .val (.int p1), .val (.int p2), .unset, .unset] [(.int (55296 : Int32)), (.int (6 : Int32)), (.ref b1), (.ref b1)])) rfl rfl (hb hby at_38)
  have V15 : Arv Z h15 b1 k1 .int (17 : Int32) [(.int (0 : Int32)), (.int (9 : Int32)), (.int (10 : Int32)), (.int (13 : Int32)), (.int (32 : Int32)), (.int (55295 : Int32)), (.int (55296 : Int32)), (.int (0 : Int32)), (.int (0 : Int32)), (.int (0 : Int32)), (.int (0 : Int32)), (.int (0 : Int32)), (.int (0 : Int32)), (.int (0 : Int32)), (.int (0 : Int32)), (.int (0 : Int32)), (.int (0 : Int32))] (.int (0 : Int32)) := Arv.set Ar15 qa15 qs15 qn15 qh15 qg15 rfl W15 6 rfl (Nat.le_of_ble_eq_true rfl)
  have f16_0 := Nat.le_trans f14_0 (Keep.of_wr W15).1
  have N15 := Fr.snoc X15 N13 g_b1
  refine Wp.back (U' := (T15.setTop (mkF m 39 #[.val (.int p0), .val (.int p1), .val (.int p2), .unset, .unset] [(.ref b1)]))) st15 ?_
  refine Wp.back (U' := (T15.setTop (mkF m 44 #[.val (.int p0), .val (.int p1), .val (.int p2), .unset, .unset] [(.int (57343 : Int32)), (.int (7 : Int32)), (.ref b1), (.ref b1)]))) (fun t k => XS.dup X15.here hx rfl (hb hby at_39) rfl rfl (XT.bipushV X15.here hx rfl (7 : Int32) (hb hby at_40) (by decide) (Jvm.Stand.ldcI X15 hx hown (mvT hZ (hw _ (List.mem_of_getElem? (i := 3) rfl))) rfl (hb hby at_42) k))) ?_
  have vq17 := V15
  obtain ⟨cl17, Ar17, qa17, qs17, qn17, qh17, qg17⟩ := vq17
  have hin17 : ¬ ((7 : Int32) < 0 ∨ cl17.slots.size ≤ ((7 : Int32)).toNatClampNeg) := inb_of qs17 ⟨by decide, by decide⟩
  obtain ⟨T17, h17, X17, e17, W17, st17⟩ := stI X15 hx hZ e15 Ar17 (j := (7 : Int32)) hin17 (g := (mkF m 44 #[.val (.int p0), .val (.int p1), .val (.int p2), .unset, .unset] [(.int (57343 : Int32)), (.int (7 : Int32)), (.ref b1), (.ref b1)])) rfl rfl (hb hby at_44)
  have V17 : Arv Z h17 b1 k1 .int (17 : Int32) [(.int (0 : Int32)), (.int (9 : Int32)), (.int (10 : Int32)), (.int (13 : Int32)), (.int (32 : Int32)), (.int (55295 : Int32)), (.int (55296 : Int32)), (.int (57343 : Int32)), (.int (0 : Int32)), (.int (0 : Int32)), (.int (0 : Int32)), (.int (0 : Int32)), (.int (0 : Int32)), (.int (0 : Int32)), (.int (0 : Int32)), (.int (0 : Int32)), (.int (0 : Int32))] (.int (0 : Int32)) := Arv.set Ar17 qa17 qs17 qn17 qh17 qg17 rfl W17 7 rfl (Nat.le_of_ble_eq_true rfl)
  have f18_0 := Nat.le_trans f16_0 (Keep.of_wr W17).1
  have N17 := Fr.snoc X17 N15 g_b1
  refine Wp.back (U' := (T17.setTop (mkF m 45 #[.val (.int p0), .val (.int p1), .val (.int p2), .unset, .unset] [(.ref b1)]))) st17 ?_
  refine Wp.back (U' := (T17.setTop (mkF m 50 #[.val (.int p0), .val (.int p1), .val (.int p2), .unset, .unset] [(.int (57344 : Int32)), (.int (8 : Int32)), (.ref b1), (.ref b1)]))) (fun t k => XS.dup X17.here hx rfl (hb hby at_45) rfl rfl (XT.bipushV X17.here hx rfl (8 : Int32) (hb hby at_46) (by decide) (Jvm.Stand.ldcI X17 hx hown (mvT hZ (hw _ (List.mem_of_getElem? (i := 4) rfl))) rfl (hb hby at_48) k))) ?_
  have vq19 := V17
  obtain ⟨cl19, Ar19, qa19, qs19, qn19, qh19, qg19⟩ := vq19
  have hin19 : ¬ ((8 : Int32) < 0 ∨ cl19.slots.size ≤ ((8 : Int32)).toNatClampNeg) := inb_of qs19 ⟨by decide, by decide⟩
  obtain ⟨T19, h19, X19, e19, W19, st19⟩ := stI X17 hx hZ e17 Ar19 (j := (8 : Int32)) hin19 (g := (mkF m 50 #[.val (.int p0), .val (.int p1), .val (.int p2), .unset, .unset] [(.int (57344 : Int32)), (.int (8 : Int32)), (.ref b1), (.ref b1)])) rfl rfl (hb hby at_50)
  have V19 : Arv Z h19 b1 k1 .int (17 : Int32) [(.int (0 : Int32)), (.int (9 : Int32)), (.int (10 : Int32)), (.int (13 : Int32)), (.int (32 : Int32)), (.int (55295 : Int32)), (.int (55296 : Int32)), (.int (57343 : Int32)), (.int (57344 : Int32)), (.int (0 : Int32)), (.int (0 : Int32)), (.int (0 : Int32)), (.int (0 : Int32)), (.int (0 : Int32)), (.int (0 : Int32)), (.int (0 : Int32)), (.int (0 : Int32))] (.int (0 : Int32)) := Arv.set Ar19 qa19 qs19 qn19 qh19 qg19 rfl W19 8 rfl (Nat.le_of_ble_eq_true rfl)
  have f20_0 := Nat.le_trans f18_0 (Keep.of_wr W19).1
  have N19 := Fr.snoc X19 N17 g_b1
  refine Wp.back (U' := (T19.setTop (mkF m 51 #[.val (.int p0), .val (.int p1), .val (.int p2), .unset, .unset] [(.ref b1)]))) st19 ?_
  refine Wp.back (U' := (T19.setTop (mkF m 56 #[.val (.int p0), .val (.int p1), .val (.int p2), .unset, .unset] [(.int (65533 : Int32)), (.int (9 : Int32)), (.ref b1), (.ref b1)]))) (fun t k => XS.dup X19.here hx rfl (hb hby at_51) rfl rfl (XT.bipushV X19.here hx rfl (9 : Int32) (hb hby at_52) (by decide) (Jvm.Stand.ldcI X19 hx hown (mvT hZ (hw _ (List.mem_of_getElem? (i := 5) rfl))) rfl (hb hby at_54) k))) ?_
  have vq21 := V19
  obtain ⟨cl21, Ar21, qa21, qs21, qn21, qh21, qg21⟩ := vq21
  have hin21 : ¬ ((9 : Int32) < 0 ∨ cl21.slots.size ≤ ((9 : Int32)).toNatClampNeg) := inb_of qs21 ⟨by decide, by decide⟩
  obtain ⟨T21, h21, X21, e21, W21, st21⟩ := stI X19 hx hZ e19 Ar21 (j := (9 : Int32)) hin21 (g := (mkF m 56 #[.val (.int p0), .val (.int p1), .val (.int p2), .unset, .unset] [(.int (65533 : Int32)), (.int (9 : Int32)), (.ref b1), (.ref b1)])) rfl rfl (hb hby at_56)
  have V21 : Arv Z h21 b1 k1 .int (17 : Int32) [(.int (0 : Int32)), (.int (9 : Int32)), (.int (10 : Int32)), (.int (13 : Int32)), (.int (32 : Int32)), (.int (55295 : Int32)), (.int (55296 : Int32)), (.int (57343 : Int32)), (.int (57344 : Int32)), (.int (65533 : Int32)), (.int (0 : Int32)), (.int (0 : Int32)), (.int (0 : Int32)), (.int (0 : Int32)), (.int (0 : Int32)), (.int (0 : Int32)), (.int (0 : Int32))] (.int (0 : Int32)) := Arv.set Ar21 qa21 qs21 qn21 qh21 qg21 rfl W21 9 rfl (Nat.le_of_ble_eq_true rfl)
  have f22_0 := Nat.le_trans f20_0 (Keep.of_wr W21).1
  have N21 := Fr.snoc X21 N19 g_b1
  refine Wp.back (U' := (T21.setTop (mkF m 57 #[.val (.int p0), .val (.int p1), .val (.int p2), .unset, .unset] [(.ref b1)]))) st21 ?_
  refine Wp.back (U' := (T21.setTop (mkF m 62 #[.val (.int p0), .val (.int p1), .val (.int p2), .unset, .unset] [(.int (65534 : Int32)), (.int (10 : Int32)), (.ref b1), (.ref b1)]))) (fun t k => XS.dup X21.here hx rfl (hb hby at_57) rfl rfl (XT.bipushV X21.here hx rfl (10 : Int32) (hb hby at_58) (by decide) (Jvm.Stand.ldcI X21 hx hown (mvT hZ (hw _ (List.mem_of_getElem? (i := 6) rfl))) rfl (hb hby at_60) k))) ?_
  have vq23 := V21
  obtain ⟨cl23, Ar23, qa23, qs23, qn23, qh23, qg23⟩ := vq23
  have hin23 : ¬ ((10 : Int32) < 0 ∨ cl23.slots.size ≤ ((10 : Int32)).toNatClampNeg) := inb_of qs23 ⟨by decide, by decide⟩
  obtain ⟨T23, h23, X23, e23, W23, st23⟩ := stI X21 hx hZ e21 Ar23 (j := (10 : Int32)) hin23 (g := (mkF m 62 #[.val (.int p0), .val (.int p1), .val (.int p2), .unset, .unset] [(.int (65534 : Int32)), (.int (10 : Int32)), (.ref b1), (.ref b1)])) rfl rfl (hb hby at_62)
  have V23 : Arv Z h23 b1 k1 .int (17 : Int32) [(.int (0 : Int32)), (.int (9 : Int32)), (.int (10 : Int32)), (.int (13 : Int32)), (.int (32 : Int32)), (.int (55295 : Int32)), (.int (55296 : Int32)), (.int (57343 : Int32)), (.int (57344 : Int32)), (.int (65533 : Int32)), (.int (65534 : Int32)), (.int (0 : Int32)), (.int (0 : Int32)), (.int (0 : Int32)), (.int (0 : Int32)), (.int (0 : Int32)), (.int (0 : Int32))] (.int (0 : Int32)) := Arv.set Ar23 qa23 qs23 qn23 qh23 qg23 rfl W23 10 rfl (Nat.le_of_ble_eq_true rfl)
  have f24_0 := Nat.le_trans f22_0 (Keep.of_wr W23).1
  have N23 := Fr.snoc X23 N21 g_b1
  refine Wp.back (U' := (T23.setTop (mkF m 63 #[.val (.int p0), .val (.int p1), .val (.int p2), .unset, .unset] [(.ref b1)]))) st23 ?_
  refine Wp.back (U' := (T23.setTop (mkF m 68 #[.val (.int p0), .val (.int p1), .val (.int p2), .unset, .unset] [(.int (65535 : Int32)), (.int (11 : Int32)), (.ref b1), (.ref b1)]))) (fun t k => XS.dup X23.here hx rfl (hb hby at_63) rfl rfl (XT.bipushV X23.here hx rfl (11 : Int32) (hb hby at_64) (by decide) (Jvm.Stand.ldcI X23 hx hown (mvT hZ (hw _ (List.mem_of_getElem? (i := 7) rfl))) rfl (hb hby at_66) k))) ?_
  have vq25 := V23
  obtain ⟨cl25, Ar25, qa25, qs25, qn25, qh25, qg25⟩ := vq25
  have hin25 : ¬ ((11 : Int32) < 0 ∨ cl25.slots.size ≤ ((11 : Int32)).toNatClampNeg) := inb_of qs25 ⟨by decide, by decide⟩
  obtain ⟨T25, h25, X25, e25, W25, st25⟩ := stI X23 hx hZ e23 Ar25 (j := (11 : Int32)) hin25 (g := (mkF m 68 #[.val (.int p0), .val (.int p1), .val (.int p2), .unset, .unset] [(.int (65535 : Int32)), (.int (11 : Int32)), (.ref b1), (.ref b1)])) rfl rfl (hb hby at_68)
  have V25 : Arv Z h25 b1 k1 .int (17 : Int32) [(.int (0 : Int32)), (.int (9 : Int32)), (.int (10 : Int32)), (.int (13 : Int32)), (.int (32 : Int32)), (.int (55295 : Int32)), (.int (55296 : Int32)), (.int (57343 : Int32)), (.int (57344 : Int32)), (.int (65533 : Int32)), (.int (65534 : Int32)), (.int (65535 : Int32)), (.int (0 : Int32)), (.int (0 : Int32)), (.int (0 : Int32)), (.int (0 : Int32)), (.int (0 : Int32))] (.int (0 : Int32)) := Arv.set Ar25 qa25 qs25 qn25 qh25 qg25 rfl W25 11 rfl (Nat.le_of_ble_eq_true rfl)
  have f26_0 := Nat.le_trans f24_0 (Keep.of_wr W25).1
  have N25 := Fr.snoc X25 N23 g_b1
  refine Wp.back (U' := (T25.setTop (mkF m 69 #[.val (.int p0), .val (.int p1), .val (.int p2), .unset, .unset] [(.ref b1)]))) st25 ?_
  refine Wp.back (U' := (T25.setTop (mkF m 74 #[.val (.int p0), .val (.int p1), .val (.int p2), .unset, .unset] [(.int (65536 : Int32)), (.int (12 : Int32)), (.ref b1), (.ref b1)]))) (fun t k => XS.dup X25.here hx rfl (hb hby at_69) rfl rfl (XT.bipushV X25.here hx rfl (12 : Int32) (hb hby at_70) (by decide) (Jvm.Stand.ldcI X25 hx hown (mvT hZ (hw _ (List.mem_of_getElem? (i := 8) rfl))) rfl (hb hby at_72) k))) ?_
  have vq27 := V25
  obtain ⟨cl27, Ar27, qa27, qs27, qn27, qh27, qg27⟩ := vq27
  have hin27 : ¬ ((12 : Int32) < 0 ∨ cl27.slots.size ≤ ((12 : Int32)).toNatClampNeg) := inb_of qs27 ⟨by decide, by decide⟩
  obtain ⟨T27, h27, X27, e27, W27, st27⟩ := stI X25 hx hZ e25 Ar27 (j := (12 : Int32)) hin27 (g := (mkF m 74 #[.val (.int p0), .val (.int p1), .val (.int p2), .unset, .unset] [(.int (65536 : Int32)), (.int (12 : Int32)), (.ref b1), (.ref b1)])) rfl rfl (hb hby at_74)
  have V27 : Arv Z h27 b1 k1 .int (17 : Int32) [(.int (0 : Int32)), (.int (9 : Int32)), (.int (10 : Int32)), (.int (13 : Int32)), (.int (32 : Int32)), (.int (55295 : Int32)), (.int (55296 : Int32)), (.int (57343 : Int32)), (.int (57344 : Int32)), (.int (65533 : Int32)), (.int (65534 : Int32)), (.int (65535 : Int32)), (.int (65536 : Int32)), (.int (0 : Int32)), (.int (0 : Int32)), (.int (0 : Int32)), (.int (0 : Int32))] (.int (0 : Int32)) := Arv.set Ar27 qa27 qs27 qn27 qh27 qg27 rfl W27 12 rfl (Nat.le_of_ble_eq_true rfl)
  have f28_0 := Nat.le_trans f26_0 (Keep.of_wr W27).1
  have N27 := Fr.snoc X27 N25 g_b1
  refine Wp.back (U' := (T27.setTop (mkF m 75 #[.val (.int p0), .val (.int p1), .val (.int p2), .unset, .unset] [(.ref b1)]))) st27 ?_
  refine Wp.back (U' := (T27.setTop (mkF m 80 #[.val (.int p0), .val (.int p1), .val (.int p2), .unset, .unset] [(.int (1114111 : Int32)), (.int (13 : Int32)), (.ref b1), (.ref b1)]))) (fun t k => XS.dup X27.here hx rfl (hb hby at_75) rfl rfl (XT.bipushV X27.here hx rfl (13 : Int32) (hb hby at_76) (by decide) (Jvm.Stand.ldcI X27 hx hown (mvT hZ (hw _ (List.mem_of_getElem? (i := 9) rfl))) rfl (hb hby at_78) k))) ?_
  have vq29 := V27
  obtain ⟨cl29, Ar29, qa29, qs29, qn29, qh29, qg29⟩ := vq29
  have hin29 : ¬ ((13 : Int32) < 0 ∨ cl29.slots.size ≤ ((13 : Int32)).toNatClampNeg) := inb_of qs29 ⟨by decide, by decide⟩
  obtain ⟨T29, h29, X29, e29, W29, st29⟩ := stI X27 hx hZ e27 Ar29 (j := (13 : Int32)) hin29 (g := (mkF m 80 #[.val (.int p0), .val (.int p1), .val (.int p2), .unset, .unset] [(.int (1114111 : Int32)), (.int (13 : Int32)), (.ref b1), (.ref b1)])) rfl rfl (hb hby at_80)
  have V29 : Arv Z h29 b1 k1 .int (17 : Int32) [(.int (0 : Int32)), (.int (9 : Int32)), (.int (10 : Int32)), (.int (13 : Int32)), (.int (32 : Int32)), (.int (55295 : Int32)), (.int (55296 : Int32)), (.int (57343 : Int32)), (.int (57344 : Int32)), (.int (65533 : Int32)), (.int (65534 : Int32)), (.int (65535 : Int32)), (.int (65536 : Int32)), (.int (1114111 : Int32)), (.int (0 : Int32)), (.int (0 : Int32)), (.int (0 : Int32))] (.int (0 : Int32)) := Arv.set Ar29 qa29 qs29 qn29 qh29 qg29 rfl W29 13 rfl (Nat.le_of_ble_eq_true rfl)
  have f30_0 := Nat.le_trans f28_0 (Keep.of_wr W29).1
  have N29 := Fr.snoc X29 N27 g_b1
  refine Wp.back (U' := (T29.setTop (mkF m 81 #[.val (.int p0), .val (.int p1), .val (.int p2), .unset, .unset] [(.ref b1)]))) st29 ?_
  refine Wp.back (U' := (T29.setTop (mkF m 86 #[.val (.int p0), .val (.int p1), .val (.int p2), .unset, .unset] [(.int (1114112 : Int32)), (.int (14 : Int32)), (.ref b1), (.ref b1)]))) (fun t k => XS.dup X29.here hx rfl (hb hby at_81) rfl rfl (XT.bipushV X29.here hx rfl (14 : Int32) (hb hby at_82) (by decide) (Jvm.Stand.ldcI X29 hx hown (mvT hZ (hw _ (List.mem_of_getElem? (i := 10) rfl))) rfl (hb hby at_84) k))) ?_
  have vq31 := V29
  obtain ⟨cl31, Ar31, qa31, qs31, qn31, qh31, qg31⟩ := vq31
  have hin31 : ¬ ((14 : Int32) < 0 ∨ cl31.slots.size ≤ ((14 : Int32)).toNatClampNeg) := inb_of qs31 ⟨by decide, by decide⟩
  obtain ⟨T31, h31, X31, e31, W31, st31⟩ := stI X29 hx hZ e29 Ar31 (j := (14 : Int32)) hin31 (g := (mkF m 86 #[.val (.int p0), .val (.int p1), .val (.int p2), .unset, .unset] [(.int (1114112 : Int32)), (.int (14 : Int32)), (.ref b1), (.ref b1)])) rfl rfl (hb hby at_86)
  have V31 : Arv Z h31 b1 k1 .int (17 : Int32) [(.int (0 : Int32)), (.int (9 : Int32)), (.int (10 : Int32)), (.int (13 : Int32)), (.int (32 : Int32)), (.int (55295 : Int32)), (.int (55296 : Int32)), (.int (57343 : Int32)), (.int (57344 : Int32)), (.int (65533 : Int32)), (.int (65534 : Int32)), (.int (65535 : Int32)), (.int (65536 : Int32)), (.int (1114111 : Int32)), (.int (1114112 : Int32)), (.int (0 : Int32)), (.int (0 : Int32))] (.int (0 : Int32)) := Arv.set Ar31 qa31 qs31 qn31 qh31 qg31 rfl W31 14 rfl (Nat.le_of_ble_eq_true rfl)
  have f32_0 := Nat.le_trans f30_0 (Keep.of_wr W31).1
  have N31 := Fr.snoc X31 N29 g_b1
  refine Wp.back (U' := (T31.setTop (mkF m 87 #[.val (.int p0), .val (.int p1), .val (.int p2), .unset, .unset] [(.ref b1)]))) st31 ?_
  refine Wp.back (U' := (T31.setTop (mkF m 92 #[.val (.int p0), .val (.int p1), .val (.int p2), .unset, .unset] [(.int (-2147483648 : Int32)), (.int (15 : Int32)), (.ref b1), (.ref b1)]))) (fun t k => XS.dup X31.here hx rfl (hb hby at_87) rfl rfl (XT.bipushV X31.here hx rfl (15 : Int32) (hb hby at_88) (by decide) (Jvm.Stand.ldcI X31 hx hown (mvT hZ (hw _ (List.mem_of_getElem? (i := 11) rfl))) rfl (hb hby at_90) k))) ?_
  have vq33 := V31
  obtain ⟨cl33, Ar33, qa33, qs33, qn33, qh33, qg33⟩ := vq33
  have hin33 : ¬ ((15 : Int32) < 0 ∨ cl33.slots.size ≤ ((15 : Int32)).toNatClampNeg) := inb_of qs33 ⟨by decide, by decide⟩
  obtain ⟨T33, h33, X33, e33, W33, st33⟩ := stI X31 hx hZ e31 Ar33 (j := (15 : Int32)) hin33 (g := (mkF m 92 #[.val (.int p0), .val (.int p1), .val (.int p2), .unset, .unset] [(.int (-2147483648 : Int32)), (.int (15 : Int32)), (.ref b1), (.ref b1)])) rfl rfl (hb hby at_92)
  have V33 : Arv Z h33 b1 k1 .int (17 : Int32) [(.int (0 : Int32)), (.int (9 : Int32)), (.int (10 : Int32)), (.int (13 : Int32)), (.int (32 : Int32)), (.int (55295 : Int32)), (.int (55296 : Int32)), (.int (57343 : Int32)), (.int (57344 : Int32)), (.int (65533 : Int32)), (.int (65534 : Int32)), (.int (65535 : Int32)), (.int (65536 : Int32)), (.int (1114111 : Int32)), (.int (1114112 : Int32)), (.int (-2147483648 : Int32)), (.int (0 : Int32))] (.int (0 : Int32)) := Arv.set Ar33 qa33 qs33 qn33 qh33 qg33 rfl W33 15 rfl (Nat.le_of_ble_eq_true rfl)
  have f34_0 := Nat.le_trans f32_0 (Keep.of_wr W33).1
  have N33 := Fr.snoc X33 N31 g_b1
  refine Wp.back (U' := (T33.setTop (mkF m 93 #[.val (.int p0), .val (.int p1), .val (.int p2), .unset, .unset] [(.ref b1)]))) st33 ?_
  refine Wp.back (U' := (T33.setTop (mkF m 98 #[.val (.int p0), .val (.int p1), .val (.int p2), .unset, .unset] [(.int (2147483647 : Int32)), (.int (16 : Int32)), (.ref b1), (.ref b1)]))) (fun t k => XS.dup X33.here hx rfl (hb hby at_93) rfl rfl (XT.bipushV X33.here hx rfl (16 : Int32) (hb hby at_94) (by decide) (Jvm.Stand.ldcI X33 hx hown (mvT hZ (hw _ (List.mem_of_getElem? (i := 12) rfl))) rfl (hb hby at_96) k))) ?_
  have vq35 := V33
  obtain ⟨cl35, Ar35, qa35, qs35, qn35, qh35, qg35⟩ := vq35
  have hin35 : ¬ ((16 : Int32) < 0 ∨ cl35.slots.size ≤ ((16 : Int32)).toNatClampNeg) := inb_of qs35 ⟨by decide, by decide⟩
  obtain ⟨T35, h35, X35, e35, W35, st35⟩ := stI X33 hx hZ e33 Ar35 (j := (16 : Int32)) hin35 (g := (mkF m 98 #[.val (.int p0), .val (.int p1), .val (.int p2), .unset, .unset] [(.int (2147483647 : Int32)), (.int (16 : Int32)), (.ref b1), (.ref b1)])) rfl rfl (hb hby at_98)
  have V35 : Arv Z h35 b1 k1 .int (17 : Int32) [(.int (0 : Int32)), (.int (9 : Int32)), (.int (10 : Int32)), (.int (13 : Int32)), (.int (32 : Int32)), (.int (55295 : Int32)), (.int (55296 : Int32)), (.int (57343 : Int32)), (.int (57344 : Int32)), (.int (65533 : Int32)), (.int (65534 : Int32)), (.int (65535 : Int32)), (.int (65536 : Int32)), (.int (1114111 : Int32)), (.int (1114112 : Int32)), (.int (-2147483648 : Int32)), (.int (2147483647 : Int32))] (.int (0 : Int32)) := Arv.set Ar35 qa35 qs35 qn35 qh35 qg35 rfl W35 16 rfl (Nat.le_of_ble_eq_true rfl)
  have f36_0 := Nat.le_trans f34_0 (Keep.of_wr W35).1
  have N35 := Fr.snoc X35 N33 g_b1
  refine Wp.back (U' := (T35.setTop (mkF m 99 #[.val (.int p0), .val (.int p1), .val (.int p2), .unset, .unset] [(.ref b1)]))) st35 ?_
  refine Wp.back (U' := (T35.setTop (mkF m 103 #[.val (.int p0), .val (.int p1), .val (.int p2), .val (.ref b1), .unset] [(.int (p1 &&& (1 : Int32)))]))) (fun t k => XS.astoreN X35.here hx rfl (hb hby at_99) rfl rfl (l' := #[.val (.int p0), .val (.int p1), .val (.int p2), .val (.ref b1), .unset]) rfl (XS.iloadN X35.here hx rfl (hb hby at_100) rfl (XT.iconstV X35.here hx rfl (1 : Int32) (hb hby at_101) (by decide) (XS.iand X35.here hx rfl (hb hby at_102) rfl k)))) ?_
  by_cases c103_37 : (p1 &&& (1 : Int32)) = (0 : Int32)
  · refine Wp.back (U' := (T35.setTop (mkF m 134 #[.val (.int p0), .val (.int p1), .val (.int p2), .val (.ref b1), .val (.int p0)] [(.int p0)]))) (fun t k => XS.ifNo X35.here hx rfl (hb hby at_103) rfl ((if0 _ _).trans (teq c103_37).2) (XS.iloadN X35.here hx rfl (hb hby at_106) rfl (XS.istore X35.here hx rfl (hb hby at_107) rfl (l' := #[.val (.int p0), .val (.int p1), .val (.int p2), .val (.ref b1), .val (.int p0)]) rfl (XS.goto X35.here hx rfl (pc0 := 109) (pc' := 132) rfl (hb hby at_109) (by decide) (by decide) (XS.iload X35.here hx rfl (hb hby at_132) rfl k))))) ?_
    obtain ⟨_, _, ⟨T38, L38, k38, n38⟩, -, X38, ⟨Lc38, hQ38, l38, y38, z38⟩, st38⟩ := Jvm.LawKit.callS X35 hx (y := (⟨"com/example/package_registry_reader/packageregistryreader/reader/XmlSyntax", "isCharacter", "(I)Z"⟩ : MethodName)) hown (mvT hZ (hw _ (List.mem_of_getElem? (i := 13) rfl))) (mvT hZ (hw _ (List.mem_of_getElem? (i := 14) rfl))) (mvT hZ (hw _ (List.mem_of_getElem? (i := 15) rfl))) (mvT hZ (hw _ (List.mem_of_getElem? (i := 16) rfl))) (by decide) (backOf (W := 0) (rm_f_ic l Z a0 hw [] p0 h35 n0 f36_0 ) hZ (hw _ (List.mem_of_getElem? (i := 16) rfl)) (hw _ (List.mem_of_getElem? (i := 15) rfl)) (by decide) (by decide)) (g := (mkF m 134 #[.val (.int p0), .val (.int p1), .val (.int p2), .val (.ref b1), .val (.int p0)] [(.int p0)])) rfl (by rw [hml]; rfl) (argsL := [(.int p0)]) (rest := []) (lenOf pd0_0 rfl) rfl (by show 2 * 0 + _ ≤ _; exact Nat.le_of_eq rfl) (hb hby at_134) (fun _ _ => ⟨rfl, e35, (by decide : 1 + 0 ≤ _), (by decide : 17 + 0 ≤ _)⟩)
    dsimp only [Pt.U, Pt.locs, Pt.cells, Pt.slots] at X38 l38 y38 z38 st38 hQ38
    subst l38 y38 z38
    obtain ⟨rfl, N38q, e38⟩ := hQ38
    have N38 := Fr.app N35 N38q
    refine Wp.back (U' := (T38.setTop (mkF m 137 #[.val (.int p0), .val (.int p1), .val (.int p2), .val (.ref b1), .val (.int p0)] [(.int (f_ic p0))]))) st38 ?_
    refine Wp.back (U' := (T38.setTop (mkF m 139 #[.val (.int p0), .val (.int p1), .val (.int p2), .val (.ref b1), .val (.int p0)] [(.int p0), (.int (f_ic p0))]))) (fun t k => XS.iload X38.here hx rfl (hb hby at_137) rfl k) ?_
    obtain ⟨_, _, ⟨T39, L39, k39, n39⟩, -, X39, ⟨Lc39, hQ39, l39, y39, z39⟩, st39⟩ := Jvm.LawKit.callS X38 hx (y := (⟨"com/example/package_registry_reader/packageregistryreader/reader/XmlSyntaxIsCharacterPinLaw", "forbidden", "(I)Z"⟩ : MethodName)) hown (mvT hZ (hw _ (List.mem_of_getElem? (i := 19) rfl))) (mvT hZ (hw _ (List.mem_of_getElem? (i := 20) rfl))) (mvT hZ (hw _ (List.mem_of_getElem? (i := 21) rfl))) (mvT hZ (hw _ (List.mem_of_getElem? (i := 22) rfl))) (by decide) (backOf (W := 1) (rm_f_fb l Z a0 hw [] p0 h35 n0 f36_0 ) hZ (hw _ (List.mem_of_getElem? (i := 22) rfl)) (hw _ (List.mem_of_getElem? (i := 21) rfl)) (by decide) (by decide)) (g := (mkF m 139 #[.val (.int p0), .val (.int p1), .val (.int p2), .val (.ref b1), .val (.int p0)] [(.int p0), (.int (f_ic p0))])) rfl (by rw [hml]; rfl) (argsL := [(.int p0)]) (rest := [(.int (f_ic p0))]) (lenOf pd0_0 rfl) rfl (by show 2 * 0 + _ ≤ _; exact Nat.le_of_eq rfl) (hb hby at_139) (fun _ _ => ⟨rfl, e38, (by decide : 1 + 0 ≤ _), (by decide : 17 + 0 ≤ _)⟩)
    dsimp only [Pt.U, Pt.locs, Pt.cells, Pt.slots] at X39 l39 y39 z39 st39 hQ39
    subst l39 y39 z39
    obtain ⟨rfl, N39q, e39⟩ := hQ39
    have N39 := Fr.app N38 N39q
    refine Wp.back (U' := (T39.setTop (mkF m 142 #[.val (.int p0), .val (.int p1), .val (.int p2), .val (.ref b1), .val (.int p0)] [(.int (f_fb p0)), (.int (f_ic p0))]))) st39 ?_
    by_cases c142_40 : (f_fb p0) = (0 : Int32)
    · refine Wp.back (U' := (T39.setTop (mkF m 158 #[.val (.int p0), .val (.int p1), .val (.int p2), .val (.ref b1), .val (.int p0)] [(.int (1 : Int32))]))) (fun t k => XS.ifNo X39.here hx rfl (hb hby at_142) rfl ((if0 _ _).trans (teq c142_40).2) (XT.iconstV X39.here hx rfl (1 : Int32) (hb hby at_145) (by decide) (XS.goto X39.here hx rfl (pc0 := 146) (pc' := 150) rfl (hb hby at_146) (by decide) (by decide) (XS.icmpNo X39.here hx rfl (hb hby at_150) rfl (teq ((own_cp _).1 c142_40)).2 (XT.iconstV X39.here hx rfl (1 : Int32) (hb hby at_153) (by decide) (XS.goto X39.here hx rfl (pc0 := 154) (pc' := 158) rfl (hb hby at_154) (by decide) (by decide) k)))))) ?_
      obtain ⟨fs, hr, hrun, hended, hW, hsame⟩ := X39.leave (v := (some (.int (1 : Int32)))) (fun h => by rw [hret] at h; cases h)
      refine Wp.done (retN X39 hx (t := .boolean) hret (by simp) (hb hby at_158) hr) hrun hended ⟨_, _, rfl, ?_, ⟨_, rfl⟩, hW, hsame.mono (by decide) (by decide)⟩
      show QL n0 _ T39.heap _
      exact ⟨rfl, N39⟩
    · refine Wp.back (U' := (T39.setTop (mkF m 158 #[.val (.int p0), .val (.int p1), .val (.int p2), .val (.ref b1), .val (.int p0)] [(.int (1 : Int32))]))) (fun t k => XS.ifYes X39.here hx rfl (pc0 := 142) (pc' := 149) rfl (hb hby at_142) rfl ((if0 _ _).trans (feq c142_40).2) (by decide) (by decide) (XT.iconstV X39.here hx rfl (0 : Int32) (hb hby at_149) (by decide) (XS.icmpNo X39.here hx rfl (hb hby at_150) rfl (teq ((own_cp _).2 c142_40)).2 (XT.iconstV X39.here hx rfl (1 : Int32) (hb hby at_153) (by decide) (XS.goto X39.here hx rfl (pc0 := 154) (pc' := 158) rfl (hb hby at_154) (by decide) (by decide) k))))) ?_
      obtain ⟨fs, hr, hrun, hended, hW, hsame⟩ := X39.leave (v := (some (.int (1 : Int32)))) (fun h => by rw [hret] at h; cases h)
      refine Wp.done (retN X39 hx (t := .boolean) hret (by simp) (hb hby at_158) hr) hrun hended ⟨_, _, rfl, ?_, ⟨_, rfl⟩, hW, hsame.mono (by decide) (by decide)⟩
      show QL n0 _ T39.heap _
      exact ⟨rfl, N39⟩
  · refine Wp.back (U' := (T35.setTop (mkF m 120 #[.val (.int p0), .val (.int p1), .val (.int p2), .val (.ref b1), .unset] [(.ref b1), (.int ((((p1).toUInt32 >>> ((1 : Int32) &&& 31).toUInt32).toInt32) &&& (2147483647 : Int32))), (.ref b1)]))) (fun t k => XS.ifYes X35.here hx rfl (pc0 := 103) (pc' := 112) rfl (hb hby at_103) rfl ((if0 _ _).trans (feq c103_37).2) (by decide) (by decide) (XS.aloadN X35.here hx rfl (hb hby at_112) rfl rfl (XS.iloadN X35.here hx rfl (hb hby at_113) rfl (XT.iconstV X35.here hx rfl (1 : Int32) (hb hby at_114) (by decide) (XS.iushr X35.here hx rfl (hb hby at_115) rfl (Jvm.Stand.ldcI X35 hx hown (mvT hZ (hw _ (List.mem_of_getElem? (i := 12) rfl))) rfl (hb hby at_116) (XS.iand X35.here hx rfl (hb hby at_118) rfl (XS.aloadN X35.here hx rfl (hb hby at_119) rfl rfl k)))))))) ?_
    have vq41 := V35
    obtain ⟨cl41, Ar41, -, qs41, qn41, -, -⟩ := vq41
    refine Wp.back (U' := (T35.setTop (mkF m 121 #[.val (.int p0), .val (.int p1), .val (.int p2), .val (.ref b1), .unset] [(.int (17 : Int32)), (.int ((((p1).toUInt32 >>> ((1 : Int32) &&& 31).toUInt32).toInt32) &&& (2147483647 : Int32))), (.ref b1)]))) (fun t k => X35.arraylength hx (by rw [e35]; exact Ar41.1) (State.isArrayOf_alike hZ.alike Ar41.2.1) (g := (mkF m 120 #[.val (.int p0), .val (.int p1), .val (.int p2), .val (.ref b1), .unset] [(.ref b1), (.int ((((p1).toUInt32 >>> ((1 : Int32) &&& 31).toUInt32).toInt32) &&& (2147483647 : Int32))), (.ref b1)])) rfl rfl (hb hby at_120) t (by rw [len_of qs41 qn41]; exact k)) ?_
    refine Wp.back (U' := (T35.setTop (mkF m 122 #[.val (.int p0), .val (.int p1), .val (.int p2), .val (.ref b1), .unset] [(.int (((((p1).toUInt32 >>> ((1 : Int32) &&& 31).toUInt32).toInt32) &&& (2147483647 : Int32)) % (17 : Int32))), (.ref b1)]))) (fun t k => iremM X35 hx rfl (hb hby at_121) rfl (by decide) k) ?_
    have vq42 := V35
    obtain ⟨cl42, Ar42, qa42, qs42, qn42, qh42, qg42⟩ := vq42
    have hin42 : ¬ ((((((p1).toUInt32 >>> ((1 : Int32) &&& 31).toUInt32).toInt32) &&& (2147483647 : Int32)) % (17 : Int32)) < 0 ∨ cl42.slots.size ≤ ((((((p1).toUInt32 >>> ((1 : Int32) &&& 31).toUInt32).toInt32) &&& (2147483647 : Int32)) % (17 : Int32))).toNatClampNeg) := inb_of qs42 (own_ix p1)
    obtain ⟨bv, hbv⟩ := fit_I (qg42 _ (Nat.lt_of_not_le fun y => hin42 (Or.inr y))) (Or.inl rfl)
    have hat42 : cl42.slots[((((((p1).toUInt32 >>> ((1 : Int32) &&& 31).toUInt32).toInt32) &&& (2147483647 : Int32)) % (17 : Int32))).toNatClampNeg]? = some (.int bv) := Has.at qh42 hin42 hbv
    refine Wp.back (U' := (T35.setTop (mkF m 123 #[.val (.int p0), .val (.int p1), .val (.int p2), .val (.ref b1), .unset] [(.int bv)]))) (fun t k => X35.iaload hx (j := (((((p1).toUInt32 >>> ((1 : Int32) &&& 31).toUInt32).toInt32) &&& (2147483647 : Int32)) % (17 : Int32))) (v := (.int bv)) (by rw [e35]; exact Ar42.1) (State.isArrayOf_alike hZ.alike Ar42.2.1) Ar42.2.2 hin42 hat42 (g := (mkF m 122 #[.val (.int p0), .val (.int p1), .val (.int p2), .val (.ref b1), .unset] [(.int (((((p1).toUInt32 >>> ((1 : Int32) &&& 31).toUInt32).toInt32) &&& (2147483647 : Int32)) % (17 : Int32))), (.ref b1)])) rfl rfl (hb hby at_122) t k) ?_
    refine Wp.back (U' := (T35.setTop (mkF m 134 #[.val (.int p0), .val (.int p1), .val (.int p2), .val (.ref b1), .val (.int ((bv + (p2 &&& (7 : Int32))) - (3 : Int32)))] [(.int ((bv + (p2 &&& (7 : Int32))) - (3 : Int32)))]))) (fun t k => XS.iloadN X35.here hx rfl (hb hby at_123) rfl (XT.bipushV X35.here hx rfl (7 : Int32) (hb hby at_124) (by decide) (XS.iand X35.here hx rfl (hb hby at_126) rfl (XS.iadd X35.here hx rfl (hb hby at_127) rfl (XT.iconstV X35.here hx rfl (3 : Int32) (hb hby at_128) (by decide) (XS.isub X35.here hx rfl (hb hby at_129) rfl (XS.istore X35.here hx rfl (hb hby at_130) rfl (l' := #[.val (.int p0), .val (.int p1), .val (.int p2), .val (.ref b1), .val (.int ((bv + (p2 &&& (7 : Int32))) - (3 : Int32)))]) rfl (XS.iload X35.here hx rfl (hb hby at_132) rfl k)))))))) ?_
    obtain ⟨_, _, ⟨T43, L43, k43, n43⟩, -, X43, ⟨Lc43, hQ43, l43, y43, z43⟩, st43⟩ := Jvm.LawKit.callS X35 hx (y := (⟨"com/example/package_registry_reader/packageregistryreader/reader/XmlSyntax", "isCharacter", "(I)Z"⟩ : MethodName)) hown (mvT hZ (hw _ (List.mem_of_getElem? (i := 13) rfl))) (mvT hZ (hw _ (List.mem_of_getElem? (i := 14) rfl))) (mvT hZ (hw _ (List.mem_of_getElem? (i := 15) rfl))) (mvT hZ (hw _ (List.mem_of_getElem? (i := 16) rfl))) (by decide) (backOf (W := 0) (rm_f_ic l Z a0 hw [] ((bv + (p2 &&& (7 : Int32))) - (3 : Int32)) h35 n0 f36_0 ) hZ (hw _ (List.mem_of_getElem? (i := 16) rfl)) (hw _ (List.mem_of_getElem? (i := 15) rfl)) (by decide) (by decide)) (g := (mkF m 134 #[.val (.int p0), .val (.int p1), .val (.int p2), .val (.ref b1), .val (.int ((bv + (p2 &&& (7 : Int32))) - (3 : Int32)))] [(.int ((bv + (p2 &&& (7 : Int32))) - (3 : Int32)))])) rfl (by rw [hml]; rfl) (argsL := [(.int ((bv + (p2 &&& (7 : Int32))) - (3 : Int32)))]) (rest := []) (lenOf pd0_0 rfl) rfl (by show 2 * 0 + _ ≤ _; exact Nat.le_of_eq rfl) (hb hby at_134) (fun _ _ => ⟨rfl, e35, (by decide : 1 + 0 ≤ _), (by decide : 17 + 0 ≤ _)⟩)
    dsimp only [Pt.U, Pt.locs, Pt.cells, Pt.slots] at X43 l43 y43 z43 st43 hQ43
    subst l43 y43 z43
    obtain ⟨rfl, N43q, e43⟩ := hQ43
    have N43 := Fr.app N35 N43q
    refine Wp.back (U' := (T43.setTop (mkF m 137 #[.val (.int p0), .val (.int p1), .val (.int p2), .val (.ref b1), .val (.int ((bv + (p2 &&& (7 : Int32))) - (3 : Int32)))] [(.int (f_ic ((bv + (p2 &&& (7 : Int32))) - (3 : Int32))))]))) st43 ?_
    refine Wp.back (U' := (T43.setTop (mkF m 139 #[.val (.int p0), .val (.int p1), .val (.int p2), .val (.ref b1), .val (.int ((bv + (p2 &&& (7 : Int32))) - (3 : Int32)))] [(.int ((bv + (p2 &&& (7 : Int32))) - (3 : Int32))), (.int (f_ic ((bv + (p2 &&& (7 : Int32))) - (3 : Int32))))]))) (fun t k => XS.iload X43.here hx rfl (hb hby at_137) rfl k) ?_
    obtain ⟨_, _, ⟨T44, L44, k44, n44⟩, -, X44, ⟨Lc44, hQ44, l44, y44, z44⟩, st44⟩ := Jvm.LawKit.callS X43 hx (y := (⟨"com/example/package_registry_reader/packageregistryreader/reader/XmlSyntaxIsCharacterPinLaw", "forbidden", "(I)Z"⟩ : MethodName)) hown (mvT hZ (hw _ (List.mem_of_getElem? (i := 19) rfl))) (mvT hZ (hw _ (List.mem_of_getElem? (i := 20) rfl))) (mvT hZ (hw _ (List.mem_of_getElem? (i := 21) rfl))) (mvT hZ (hw _ (List.mem_of_getElem? (i := 22) rfl))) (by decide) (backOf (W := 1) (rm_f_fb l Z a0 hw [] ((bv + (p2 &&& (7 : Int32))) - (3 : Int32)) h35 n0 f36_0 ) hZ (hw _ (List.mem_of_getElem? (i := 22) rfl)) (hw _ (List.mem_of_getElem? (i := 21) rfl)) (by decide) (by decide)) (g := (mkF m 139 #[.val (.int p0), .val (.int p1), .val (.int p2), .val (.ref b1), .val (.int ((bv + (p2 &&& (7 : Int32))) - (3 : Int32)))] [(.int ((bv + (p2 &&& (7 : Int32))) - (3 : Int32))), (.int (f_ic ((bv + (p2 &&& (7 : Int32))) - (3 : Int32))))])) rfl (by rw [hml]; rfl) (argsL := [(.int ((bv + (p2 &&& (7 : Int32))) - (3 : Int32)))]) (rest := [(.int (f_ic ((bv + (p2 &&& (7 : Int32))) - (3 : Int32))))]) (lenOf pd0_0 rfl) rfl (by show 2 * 0 + _ ≤ _; exact Nat.le_of_eq rfl) (hb hby at_139) (fun _ _ => ⟨rfl, e43, (by decide : 1 + 0 ≤ _), (by decide : 17 + 0 ≤ _)⟩)
    dsimp only [Pt.U, Pt.locs, Pt.cells, Pt.slots] at X44 l44 y44 z44 st44 hQ44
    subst l44 y44 z44
    obtain ⟨rfl, N44q, e44⟩ := hQ44
    have N44 := Fr.app N43 N44q
    refine Wp.back (U' := (T44.setTop (mkF m 142 #[.val (.int p0), .val (.int p1), .val (.int p2), .val (.ref b1), .val (.int ((bv + (p2 &&& (7 : Int32))) - (3 : Int32)))] [(.int (f_fb ((bv + (p2 &&& (7 : Int32))) - (3 : Int32)))), (.int (f_ic ((bv + (p2 &&& (7 : Int32))) - (3 : Int32))))]))) st44 ?_
    by_cases c142_45 : (f_fb ((bv + (p2 &&& (7 : Int32))) - (3 : Int32))) = (0 : Int32)
    · refine Wp.back (U' := (T44.setTop (mkF m 158 #[.val (.int p0), .val (.int p1), .val (.int p2), .val (.ref b1), .val (.int ((bv + (p2 &&& (7 : Int32))) - (3 : Int32)))] [(.int (1 : Int32))]))) (fun t k => XS.ifNo X44.here hx rfl (hb hby at_142) rfl ((if0 _ _).trans (teq c142_45).2) (XT.iconstV X44.here hx rfl (1 : Int32) (hb hby at_145) (by decide) (XS.goto X44.here hx rfl (pc0 := 146) (pc' := 150) rfl (hb hby at_146) (by decide) (by decide) (XS.icmpNo X44.here hx rfl (hb hby at_150) rfl (teq ((own_cp _).1 c142_45)).2 (XT.iconstV X44.here hx rfl (1 : Int32) (hb hby at_153) (by decide) (XS.goto X44.here hx rfl (pc0 := 154) (pc' := 158) rfl (hb hby at_154) (by decide) (by decide) k)))))) ?_
      obtain ⟨fs, hr, hrun, hended, hW, hsame⟩ := X44.leave (v := (some (.int (1 : Int32)))) (fun h => by rw [hret] at h; cases h)
      refine Wp.done (retN X44 hx (t := .boolean) hret (by simp) (hb hby at_158) hr) hrun hended ⟨_, _, rfl, ?_, ⟨_, rfl⟩, hW, hsame.mono (by decide) (by decide)⟩
      show QL n0 _ T44.heap _
      exact ⟨rfl, N44⟩
    · refine Wp.back (U' := (T44.setTop (mkF m 158 #[.val (.int p0), .val (.int p1), .val (.int p2), .val (.ref b1), .val (.int ((bv + (p2 &&& (7 : Int32))) - (3 : Int32)))] [(.int (1 : Int32))]))) (fun t k => XS.ifYes X44.here hx rfl (pc0 := 142) (pc' := 149) rfl (hb hby at_142) rfl ((if0 _ _).trans (feq c142_45).2) (by decide) (by decide) (XT.iconstV X44.here hx rfl (0 : Int32) (hb hby at_149) (by decide) (XS.icmpNo X44.here hx rfl (hb hby at_150) rfl (teq ((own_cp _).2 c142_45)).2 (XT.iconstV X44.here hx rfl (1 : Int32) (hb hby at_153) (by decide) (XS.goto X44.here hx rfl (pc0 := 154) (pc' := 158) rfl (hb hby at_154) (by decide) (by decide) k))))) ?_
      obtain ⟨fs, hr, hrun, hended, hW, hsame⟩ := X44.leave (v := (some (.int (1 : Int32)))) (fun h => by rw [hret] at h; cases h)
      refine Wp.done (retN X44 hx (t := .boolean) hret (by simp) (hb hby at_158) hr) hrun hended ⟨_, _, rfl, ?_, ⟨_, rfl⟩, hW, hsame.mono (by decide) (by decide)⟩
      show QL n0 _ T44.heap _
      exact ⟨rfl, N44⟩
set_option maxRecDepth 65536 in
set_option maxHeartbeats 40000000 in
theorem comes_1 {Post : Tables → Env → Array Value → State → Outcome → State → Prop} (hpost : ∀ tb e args s v u, (limb_1_1.after args s (.returned v) u = true ∧ limb_1_2.after args s (.returned v) u = true ∧ True) → FrameEnd s (.returned v) u (Jvm.fieldLocs frame_1_writes args s ++ Jvm.arrayLocs frame_1_arrays args s ++ Jvm.staticLocs frame_1_statics s) 16 128 → Post tb e args s (.returned v) u) :
    ArmFor flags0 classFile x code maxLocals ret World_1 tables_1 room_1 Calls_1 rest_1 Pre_1 Post := by
  intro l hfl _ _ p e ha hc hk s m args below hf hA hF happ hP
  obtain ⟨hcalls, hrest, hpre⟩ := hP
  obtain ⟨-, -, -, hnamed, -, -, -, hat⟩ := (Spec.applies_iff hf).mp happ
  obtain ⟨hg, hn⟩ := and_e (Cond.before_iff.mp (show (Jvm.Cond.and given_1 narrow_1).before args s = true from hpre))
  obtain ⟨hg1, hg2⟩ := and_e hg
  obtain ⟨hg21, hg22⟩ := and_e hg2
  obtain ⟨hg221, hg222⟩ := and_e hg22
  obtain ⟨w0, w1, w2, rfl⟩ : ∃ w0 w1 w2 : Value, args = #[w0, w1, w2] := by
    have hs : args.size = 3 := by simpa [Cond.value, given_1] using hg1
    obtain ⟨L⟩ := args
    match L, hs with
    | [w0, w1, w2], _ => exact ⟨w0, w1, w2, rfl⟩
  have hw := fun d (hd : d ∈ tables_1) => atoms_spec (ws := Jvm.Cond.code x code maxLocals ret :: tables_1) hat d (List.mem_cons_of_mem _ hd)
  have hfit : Fit s := fun {y c} hc i hi => by
    obtain ⟨ha, rfl⟩ := Array.getElem?_eq_some_iff.mp hc
    have q := List.all_eq_true.mp ((Array.all_eq_true_iff_forall_mem.mp hF) _ (Array.getElem_mem ha)) i (List.mem_range.mpr hi)
    simpa [Array.getElem?_eq_getElem hi] using q
  obtain ⟨i0, ei0⟩ := is_v hg21
  obtain rfl : w0 = (.int i0) := Option.some.inj ei0
  obtain ⟨i1, ei1⟩ := is_v hg221
  obtain rfl : w1 = (.int i1) := Option.some.inj ei1
  obtain ⟨i2, ei2⟩ := is_v hg222
  obtain rfl : w2 = (.int i2) := Option.some.inj ei2
  obtain ⟨n, o, h1, h2, h3, _, L, rfl, ⟨rfl, N⟩, hq⟩ := rm_law l s _ hw tables_1 i0 i1 i2 s.heap s.heap.size (Nat.le_refl _)  p e ha hc hk s m _ below hf ((Spec.applies_iff_loose hf).mp happ).1 ⟨rfl, State.Warmed39.refl s, rfl⟩ trivial
  refine ⟨n, _, h1, h2, h3, hpost _ _ _ _ _ _ ⟨Cond.after_iff.mpr rfl, Cond.after_iff.mpr (eq_i res_at (Term.int_eval (1)) rfl), trivial⟩ ⟨hq.1, hq.2.1, (hq.2.2.sift fun y hy => Or.inr (N y hy)).mono (by decide) (by decide)⟩⟩
theorem main_1_1 : Claimed_1_1 := comes_1 fun _ _ _ _ _ _ h hF => ⟨h.1, hF⟩
theorem main_1_2 : Claimed_1_2 := comes_1 fun _ _ _ _ _ _ h hF => ⟨h.2.1, hF⟩
end Jvm.Pilot.@@N@@
namespace Jvm.Pilot.@@N@@
open Jvm Jvm.ClassFile Sem Op Lib Jvm.Free Jvm.Stand Jvm.Pilot.@@N@@.Jvm.D
/-! MADE BY PROGRAM (witnessworld.py) out of the Statement's table words and the real class files: 9 classes; the members and pool entries that the words name. The judged class is class 1, her method 2. -/
namespace start1
open Jvm.ClassFile
def u (s : String) : CpInfo := .utf8 (stringToUtf16 s)
/-- a pool by its gaps: so many unusable entries, then the entry; so many at the end -/
def gap : Nat → List CpInfo → List CpInfo
  | 0, r => r
  | n + 1, r => .unusable :: gap n r
def poolList (es : List (Nat × CpInfo)) (last : Nat) : List CpInfo := es.foldr (fun e r => gap e.1 (e.2 :: r)) (gap last [])
def pool (es : List (Nat × CpInfo)) (last : Nat) : Array CpInfo := ⟨poolList es last⟩
def fileOf (pool : Array CpInfo) (this : Nat) (attrs : Array Attribute := #[]) (ms : Array MethodInfo := #[]) (fl : Nat := 33) (sup : Nat := 0) (ifs : Array Nat := #[]) (fds : Array FieldInfo := #[]) : ClassFile where
  minorVersion := 0
  majorVersion := 65
  constantPool := pool
  accessFlags := fl
  thisClass := this
  superClass := sup
  interfaces := ifs
  fields := fds
  methods := ms
  attributes := attrs
def plain (name : String) (sup : Option ClassId) : Class where
  name := name
  kind := .ordinary
  loader := none
  accessFlags := 33
  super := sup
  interfaces := #[]
  cf := none
  fields := #[]
  methods := #[]
  instanceTypes := #[]
  staticTypes := #[]
  resolved := #[]
  callSites := []
  init := .initialized
  statics := none
  mirror := none

def pool0 : Array CpInfo := pool [(5, u "<init>"), (0, u "()V"), (1, .class_ 10), (1, u "java/lang/Object")] 113

def k0m0 : Method := { name := "<init>", desc := "()V", sig := { parameters := [], returnType := none }, accessFlags := 1, code := none }
/-- java/lang/Object -/
def k0 : Class := { plain "java/lang/Object" none with
  accessFlags := 33
  interfaces := #[]
  cf := some (fileOf pool0 8 #[] #[{ accessFlags := 1, nameIndex := 5, descriptorIndex := 6, attributes := #[] }] 33 0 #[] #[])
  fields := #[]
  methods := #[k0m0]
  instanceTypes := #[]
  staticTypes := #[]
  resolved := Array.replicate 124 none
  statics := none }

def pool1 : Array CpInfo := pool [(2, .class_ 4), (1, u "java/lang/Object"), (0, u "<init>"), (0, u "()V"), (0, .integer 55296), (0, .integer 57343), (0, .integer 65534), (0, .integer 65535), (0, .integer 1114111), (0, .integer 55295), (0, .integer 57344), (0, .integer 65533), (0, .integer 65536), (0, .integer 1114112), (2, .integer 2147483648), (0, .integer 2147483647), (0, .methodref 22 23), (0, .class_ 24), (0, .nameAndType 25 26), (0, u "com/example/package_registry_reader/packageregistryreader/reader/XmlSyntax"), (0, u "isCharacter"), (0, u "(I)Z"), (0, .methodref 28 29), (0, .class_ 30), (0, .nameAndType 31 26), (0, u "com/example/package_registry_reader/packageregistryreader/reader/XmlSyntaxIsCharacterPinLaw"), (0, u "forbidden"), (3, u "law"), (0, u "(III)Z")] 4

def k1m0 : Method := { name := "<init>", desc := "()V", sig := { parameters := [], returnType := none }, accessFlags := 2, code := none }
def k1c1 : Code := { maxStack := 2, maxLocals := 1, code := method_2_code, exceptionTable := #[], attributes := #[] }
def k1m1 : Method := { name := "forbidden", desc := "(I)Z", sig := { parameters := [.int], returnType := some .boolean }, accessFlags := 10, code := some k1c1 }
def k1c2 : Code := { maxStack := 4, maxLocals := 5, code := code, exceptionTable := #[], attributes := #[] }
def k1m2 : Method := { name := "law", desc := "(III)Z", sig := { parameters := [.int, .int, .int], returnType := some .boolean }, accessFlags := 9, code := some k1c2 }
/-- com/example/package_registry_reader/packageregistryreader/reader/XmlSyntaxIsCharacterPinLaw -/
def k1 : Class := { plain "com/example/package_registry_reader/packageregistryreader/reader/XmlSyntaxIsCharacterPinLaw" (some 0) with
  accessFlags := 49
  interfaces := #[]
  cf := some (fileOf pool1 28 #[] #[{ accessFlags := 2, nameIndex := 5, descriptorIndex := 6, attributes := #[] }, { accessFlags := 10, nameIndex := 31, descriptorIndex := 26, attributes := #[] }, { accessFlags := 9, nameIndex := 35, descriptorIndex := 36, attributes := #[] }] 49 2 #[] #[])
  fields := #[]
  methods := #[k1m0, k1m1, k1m2]
  instanceTypes := #[]
  staticTypes := #[]
  resolved := Array.replicate 41 none
  statics := none }

def pool2 : Array CpInfo := pool [(2, .class_ 4), (1, u "java/lang/Object"), (0, u "<init>"), (0, u "()V"), (11, .class_ 20), (1, u "com/example/package_registry_reader/packageregistryreader/reader/XmlSyntax"), (2, .integer 55295), (0, .integer 57344), (0, .integer 65533), (0, .integer 65536), (2, .integer 1114111), (3, u "ASCII_START"), (0, u "[Z"), (2, u "ASCII_REST"), (6, u "NAME_START"), (0, u "[I"), (6, u "NAME_REST"), (79, u "isCharacter"), (0, u "(I)Z")] 26

def k2m0 : Method := { name := "<init>", desc := "()V", sig := { parameters := [], returnType := none }, accessFlags := 2, code := none }
def k2c1 : Code := { maxStack := 2, maxLocals := 1, code := prog_61_method_4_code, exceptionTable := #[], attributes := #[] }
def k2m1 : Method := { name := "isCharacter", desc := "(I)Z", sig := { parameters := [.int], returnType := some .boolean }, accessFlags := 8, code := some k2c1 }
/-- com/example/package_registry_reader/packageregistryreader/reader/XmlSyntax -/
def k2 : Class := { plain "com/example/package_registry_reader/packageregistryreader/reader/XmlSyntax" (some 0) with
  accessFlags := 48
  interfaces := #[]
  cf := some (fileOf pool2 18 #[] #[{ accessFlags := 2, nameIndex := 5, descriptorIndex := 6, attributes := #[] }, { accessFlags := 8, nameIndex := 132, descriptorIndex := 133, attributes := #[] }] 48 2 #[] #[{ accessFlags := 26, nameIndex := 44, descriptorIndex := 45, attributes := #[] }, { accessFlags := 26, nameIndex := 52, descriptorIndex := 45, attributes := #[] }, { accessFlags := 26, nameIndex := 33, descriptorIndex := 34, attributes := #[] }, { accessFlags := 26, nameIndex := 37, descriptorIndex := 34, attributes := #[] }])
  fields := #[{ name := "NAME_START", type := (.array .int), accessFlags := 26, slot := 0, constantValue := 0 }, { name := "NAME_REST", type := (.array .int), accessFlags := 26, slot := 1, constantValue := 0 }, { name := "ASCII_START", type := (.array .boolean), accessFlags := 26, slot := 2, constantValue := 0 }, { name := "ASCII_REST", type := (.array .boolean), accessFlags := 26, slot := 3, constantValue := 0 }]
  methods := #[k2m0, k2m1]
  instanceTypes := #[]
  staticTypes := #[(.array .int), (.array .int), (.array .boolean), (.array .boolean)]
  resolved := Array.replicate 160 none
  statics := none }

def pool3 : Array CpInfo := pool [(1, u "java/lang/Cloneable"), (0, .class_ 1), (0, u "java/lang/Object"), (0, .class_ 3)] 3

/-- java/lang/Cloneable -/
def k3 : Class := { plain "java/lang/Cloneable" (some 0) with
  accessFlags := 1537
  interfaces := #[]
  cf := some (fileOf pool3 2 #[] #[] 1537 4 #[] #[])
  fields := #[]
  methods := #[]
  instanceTypes := #[]
  staticTypes := #[]
  resolved := Array.replicate 8 none
  statics := none }

def pool4 : Array CpInfo := pool [(1, u "java/io/Serializable"), (0, .class_ 1), (0, u "java/lang/Object"), (0, .class_ 3)] 3

/-- java/io/Serializable -/
def k4 : Class := { plain "java/io/Serializable" (some 0) with
  accessFlags := 1537
  interfaces := #[]
  cf := some (fileOf pool4 2 #[] #[] 1537 4 #[] #[])
  fields := #[]
  methods := #[]
  instanceTypes := #[]
  staticTypes := #[]
  resolved := Array.replicate 8 none
  statics := none }

/-- the primitive byte -/
def k5 : Class := { plain "byte" none with kind := .primitive 'B', accessFlags := 0x411 }
/-- [B -/
def k6 : Class := { plain "[B" (some 0) with kind := .array 5 .byte, interfaces := #[3, 4], accessFlags := 1041 }

/-- the primitive int -/
def k7 : Class := { plain "int" none with kind := .primitive 'I', accessFlags := 0x411 }
/-- [I -/
def k8 : Class := { plain "[I" (some 0) with kind := .array 7 .int, interfaces := #[3, 4], accessFlags := 1041 }

def heap : Heap := #[]
def classes : Array Class := #[k0, k1, k2, k3, k4, k5, k6, k7, k8]
def interned : List (Array UInt16 × Addr) := []
def slotsUsed : Nat := 0
def theMethod : MethodId := ⟨1, 2⟩
def args0 : Array Value := #[.int 5, .int 1, .int 2]
def aboutOver (below : List Frame) : State where
  vm := { classes := classes, interned := interned.toArray }
  heap := heap
  slotsUsed := slotsUsed
  threads := #[{ frames := .invoking theMethod args0 :: below }]
def below0 : List Frame := [.native { method := ⟨0, 0⟩, args := #[] }]
def about1 : State := aboutOver below0
def p0 : Program := .bare "" "" ""
def e0 : Env := launch0.env 0 0 0
theorem w_frames : about1.frames = Frame.invoking theMethod args0 :: below0 := rfl
set_option maxRecDepth 65536 in
theorem w_args : argsFit about1.vm theMethod args0 = true := by decide +kernel
set_option maxRecDepth 65536 in
theorem w_heap : heapFits about1 = true := by decide +kernel
set_option maxRecDepth 65536 in
theorem w_runnable : about1.curStatus? = some .runnable := by decide +kernel
set_option maxRecDepth 65536 in
theorem w_alone : about1.alone = true := by decide +kernel
set_option maxRecDepth 65536 in
theorem w_named : about1.methodNamed? x = some theMethod := by decide +kernel
set_option maxRecDepth 65536 in
theorem w_hears : about1.hears theMethod below0 = true := by decide +kernel
set_option maxRecDepth 65536 in
theorem w_ripe : about1.ripe theMethod args0 below0 = true := by decide +kernel
theorem w_running : about1.status = .running := rfl
set_option maxRecDepth 65536 in
theorem w_room : about1.hasRoom e0.platform room_1 = true :=
  launch0.hasRoom_least _ room_1 (by decide +kernel) (by decide +kernel) (by decide +kernel) (by decide +kernel) (by decide +kernel) (by decide +kernel)
theorem allAtoms_all (ts : List Jvm.Cond) (a : Array Jvm.Value) (st : Jvm.State) : (allAtoms ts).before a st = ts.all (fun c => c.before a st) := by
  induction ts with
  | nil => rfl
  | cons c t ih =>
    show (Jvm.Cond.and c (allAtoms t)).before a st = _
    rw [Jvm.Cond.before_and, ih, List.all_cons]
def words1 : List Jvm.Cond := Jvm.Cond.code x code maxLocals ret :: tables_1
/-- a 'code' word, met by the world's own term for the bytes: nothing is compared byte by byte -/
theorem code_word {y : MethodName} {bytes : ByteArray} {mx : Nat} {rt : Option FieldType} {a : Array Value} {s : State} {m : MethodId} {meth : Method} {c : Code} (h1 : s.methodNamed? y = some m) (h2 : s.vm.method? m = some meth) (h3 : meth.code = some c) (h4 : c.code = bytes)
    (h5 : (c.maxLocals == mx && c.exceptionTable.isEmpty && decide (c.maxStack ≤ mostOperands) && decide (meth.sig.returnType = rt) && !meth.locks && decide (parseMethodDescriptor y.desc = some meth.sig)) = true) : (Jvm.Cond.code y bytes mx rt).before a s = true := by
  simp only [Bool.and_eq_true, beq_iff_eq, Bool.not_eq_true', decide_eq_true_eq] at h5
  obtain ⟨⟨⟨⟨⟨g1, g2⟩, g3⟩, g4⟩, g5⟩, g6⟩ := h5
  simp [Cond.before, Cond.holds, Cond.value, h1, h2, h3, h4, g1, g2, g3, g4, g5, g6]
def isCode : Jvm.Cond → Bool
  | .code _ _ _ _ => true
  | _ => false
theorem all_split {L : List Jvm.Cond} {P : Jvm.Cond → Bool} (h1 : L.all (fun c => isCode c || P c) = true) (h2 : ∀ c ∈ L.filter isCode, P c = true) : L.all P = true := by
  refine List.all_eq_true.mpr fun c hc => ?_
  have h := List.all_eq_true.mp h1 c hc
  rcases Bool.eq_false_or_eq_true (isCode c) with hi | hi
  · exact h2 c (List.mem_filter.mpr ⟨hc, hi⟩)
  · simpa [hi] using h
set_option maxRecDepth 65536 in
theorem w_c0 : (Jvm.Cond.code x code maxLocals ret).before args0 about1 = true := code_word (m := ⟨1, 2⟩) (meth := k1m2) (c := k1c2) (by decide +kernel) rfl rfl rfl (by decide +kernel)
set_option maxRecDepth 65536 in
theorem w_c1 : (Jvm.Cond.code ({ cls := "com/example/package_registry_reader/packageregistryreader/reader/XmlSyntax", name := "isCharacter", desc := "(I)Z" } : Jvm.MethodName) prog_61_method_4_code (1 : Nat) (Option.some Jvm.ClassFile.FieldType.boolean)).before args0 about1 = true := code_word (m := ⟨2, 1⟩) (meth := k2m1) (c := k2c1) (by decide +kernel) rfl rfl rfl (by decide +kernel)
set_option maxRecDepth 65536 in
theorem w_c2 : (Jvm.Cond.code ({ cls := "com/example/package_registry_reader/packageregistryreader/reader/XmlSyntaxIsCharacterPinLaw", name := "forbidden", desc := "(I)Z" } : Jvm.MethodName) method_2_code (1 : Nat) (Option.some Jvm.ClassFile.FieldType.boolean)).before args0 about1 = true := code_word (m := ⟨1, 1⟩) (meth := k1m1) (c := k1c1) (by decide +kernel) rfl rfl rfl (by decide +kernel)
def codes1 : List Jvm.Cond := [Jvm.Cond.code x code maxLocals ret, Jvm.Cond.code ({ cls := "com/example/package_registry_reader/packageregistryreader/reader/XmlSyntax", name := "isCharacter", desc := "(I)Z" } : Jvm.MethodName) prog_61_method_4_code (1 : Nat) (Option.some Jvm.ClassFile.FieldType.boolean), Jvm.Cond.code ({ cls := "com/example/package_registry_reader/packageregistryreader/reader/XmlSyntaxIsCharacterPinLaw", name := "forbidden", desc := "(I)Z" } : Jvm.MethodName) method_2_code (1 : Nat) (Option.some Jvm.ClassFile.FieldType.boolean)]
set_option maxRecDepth 65536 in
theorem codes_eq : words1.filter isCode = codes1 := rfl
theorem w_codes : ∀ c ∈ words1.filter isCode, c.before args0 about1 = true := by
  rw [codes_eq]
  intro c hc
  simp only [codes1, List.mem_cons, List.not_mem_nil, or_false] at hc
  rcases hc with rfl | rfl | rfl
  · exact w_c0
  · exact w_c1
  · exact w_c2
set_option maxRecDepth 65536 in
theorem w_t1 : (words1.take 24).all (fun c => isCode c || c.before args0 about1) = true := by decide +kernel
set_option maxRecDepth 65536 in
theorem w_t2 : (words1.drop 24).all (fun c => isCode c || c.before args0 about1) = true := by decide +kernel
theorem w_tables : (allAtoms (Jvm.Cond.code x code maxLocals ret :: tables_1)).before args0 about1 = true := by
  rw [allAtoms_all]
  show words1.all (fun c => c.before args0 about1) = true
  refine all_split ?_ w_codes
  rw [← List.take_append_drop 24 words1, List.all_append, w_t1, w_t2]
  rfl
set_option maxRecDepth 65536 in
theorem w_case : (Jvm.Cond.and given_1 narrow_1).before args0 about1 = true := by decide +kernel
theorem w_applies : (headSpec (Jvm.Cond.code x code maxLocals ret :: tables_1) room_1).applies x e0.platform about1 = true :=
  (Spec.applies_iff w_frames).mpr ⟨w_running, w_runnable, w_alone, w_named, w_hears, w_ripe, w_room, w_tables⟩
theorem atStart : AtStart classFile x code maxLocals ret World_1 tables_1 room_1 Calls_1 rest_1 Pre_1 launch0 p0 e0 about1 theMethod args0 below0 :=
  ⟨lists_1, trivial, launch0.admits_env _ _ _, launch0.least_env, fairChoices_fair.cas, fairChoices_fair.clock, w_frames, w_args, w_heap, w_applies, trivial, trivial, w_case⟩
end start1
theorem witness_1 : WitnessClaimed_1 := ⟨start1.p0, start1.e0, start1.about1, start1.theMethod, start1.args0, start1.below0, start1.atStart⟩
end Jvm.Pilot.@@N@@
