import JvmDerived
import JvmDerived.Pilot.@@N@@Statement
import JvmDerived.Pilot.@@N@@Code
set_option linter.unusedVariables false
set_option linter.unusedSimpArgs false
namespace Jvm.RoadKit
open Sem ClassFile Op Lib Jvm.Stand Jvm.Free Jvm.LawKit
section New
variable {p : Program} {l : Launch} {e : Env} {R : Room} {s : State} {m : MethodId} {args : Array Value} {below : List Frame} {meth : Method} {c : Code} {T : State} {locs : List Loc} {cells slots : Nat}
theorem retI (X : Stand p l e R s m args below meth c T locs cells slots) (hx : p.tables.exec = Jvm.exec) {pc : Nat} {Ls : Array Slot} {z : Int32} {rest : List Value} (hret : meth.sig.returnType = some .int) (hd : decode c.code pc = .ok (.ireturn, 1)) {fs : List Frame}
    (hl : ∀ (f : JFrame) (acts : List Action), f.method = m → f.locked = none → f.entered = [] → (doReturn e (T.setTop f) acts (some (.int z))).1 = T.setFrames fs) : Steps p.tables e below (T.setTop (mkF m pc Ls (.int z :: rest))) (T.setFrames fs) := by
  have hm' : T.vm.method? m = some meth := X.method'
  have hn : narrow .int (.int z) = .int z := rfl
  show Steps p.tables e below (T.setTop { method := m, pc := pc, locals := Ls, stack := _ :: rest, locked := none }) _
  jvm_step X.here [X.here.top, hx, hd, hm', hret, hn]
  first | (intro acts; rw [hl _ acts rfl rfl rfl]) | rw [hl _ _ rfl rfl rfl]
  exact Steps.refl _
end New
end Jvm.RoadKit
namespace Jvm.Pilot.@@N@@
open Jvm Jvm.ClassFile Sem Op Lib Jvm.Free Jvm.Stand Jvm.LawKit Jvm.RoadKit Bundle Jvm.Pilot.@@N@@.Jvm.D
def Wp (p : Program) (e : Env) (below : List Frame) (G : Outcome → State → Prop) (U : State) : Prop := ∃ s₂ o, Steps p.tables e below U s₂ ∧ s₂.status = .running ∧ Ended s₂ below o ∧ G o s₂
theorem Wp.back {p : Program} {e : Env} {below : List Frame} {G : Outcome → State → Prop} {U U' : State} (k : ∀ t, Steps p.tables e below U' t → Steps p.tables e below U t) (h : Wp p e below G U') : Wp p e below G U := by
  obtain ⟨s₂, o, h1, h2⟩ := h
  exact ⟨s₂, o, k _ h1, h2⟩
theorem Wp.done {p : Program} {e : Env} {below : List Frame} {G : Outcome → State → Prop} {U t : State} {o : Outcome} (h1 : Steps p.tables e below U t) (h2 : t.status = .running) (h3 : Ended t below o) (h4 : G o t) : Wp p e below G U := ⟨t, o, h1, h2, h3, h4⟩
/-- what a body leaves that writes nothing -/
def QL (n0 : Nat) (v : Option Value) (h : Heap) (L : List Loc) : Prop := v = some (.int 1) ∧ Fr n0 L
def QP (r : Option Value) (h0 : Heap) (n0 : Nat) (v : Option Value) (h : Heap) (L : List Loc) : Prop := v = r ∧ Fr n0 L ∧ h = h0
theorem own_irrefl (x : Int32) : ¬ x < x := by rw [Int32.lt_iff_toInt_lt]; omega
theorem Sta_keep0 {Z : State} {h h' : Heap} {C n d : String} {v : Value} (F : Sta Z h C n d v) (K : Keep h h' []) : Sta Z h' C n d v := by
  obtain ⟨cf, i, k, f, st, cell, h1, h2, h3, h4, h5, r⟩ := F
  exact ⟨cf, i, k, f, st, cell, h1, h2, h3, h4, K.2.1 _ _ h5 nin0, r⟩
theorem own_of (c : Int32) (h0 : 0 ≤ c.toInt) : c = Int32.ofNat c.toInt.toNat := by
  apply Int32.toInt_inj.mp
  have := rng32 c
  rw [show (Int32.ofNat c.toInt.toNat) = c.toInt.toNat.toInt32 from rfl, len_toInt (by omega)]
  omega
def f_inz (p0 : Int32) : Int32 := (if (0 : Int32) < p0 then (if p0 < (65536 : Int32) then (if p0 < (256 : Int32) then (if p0 < (16 : Int32) then (if p0 < (4 : Int32) then ((31 : Int32) - (((p0).toUInt32 >>> ((1 : Int32) &&& 31).toUInt32).toInt32)) else ((29 : Int32) - ((((((p0).toUInt32 >>> ((2 : Int32) &&& 31).toUInt32).toInt32)).toUInt32 >>> ((1 : Int32) &&& 31).toUInt32).toInt32))) else (if (((p0).toUInt32 >>> ((4 : Int32) &&& 31).toUInt32).toInt32) < (4 : Int32) then ((27 : Int32) - ((((((p0).toUInt32 >>> ((4 : Int32) &&& 31).toUInt32).toInt32)).toUInt32 >>> ((1 : Int32) &&& 31).toUInt32).toInt32)) else ((25 : Int32) - (((((((((p0).toUInt32 >>> ((4 : Int32) &&& 31).toUInt32).toInt32)).toUInt32 >>> ((2 : Int32) &&& 31).toUInt32).toInt32)).toUInt32 >>> ((1 : Int32) &&& 31).toUInt32).toInt32)))) else (if (((p0).toUInt32 >>> ((8 : Int32) &&& 31).toUInt32).toInt32) < (16 : Int32) then (if (((p0).toUInt32 >>> ((8 : Int32) &&& 31).toUInt32).toInt32) < (4 : Int32) then ((23 : Int32) - ((((((p0).toUInt32 >>> ((8 : Int32) &&& 31).toUInt32).toInt32)).toUInt32 >>> ((1 : Int32) &&& 31).toUInt32).toInt32)) else ((21 : Int32) - (((((((((p0).toUInt32 >>> ((8 : Int32) &&& 31).toUInt32).toInt32)).toUInt32 >>> ((2 : Int32) &&& 31).toUInt32).toInt32)).toUInt32 >>> ((1 : Int32) &&& 31).toUInt32).toInt32))) else (if ((((((p0).toUInt32 >>> ((8 : Int32) &&& 31).toUInt32).toInt32)).toUInt32 >>> ((4 : Int32) &&& 31).toUInt32).toInt32) < (4 : Int32) then ((19 : Int32) - (((((((((p0).toUInt32 >>> ((8 : Int32) &&& 31).toUInt32).toInt32)).toUInt32 >>> ((4 : Int32) &&& 31).toUInt32).toInt32)).toUInt32 >>> ((1 : Int32) &&& 31).toUInt32).toInt32)) else ((17 : Int32) - ((((((((((((p0).toUInt32 >>> ((8 : Int32) &&& 31).toUInt32).toInt32)).toUInt32 >>> ((4 : Int32) &&& 31).toUInt32).toInt32)).toUInt32 >>> ((2 : Int32) &&& 31).toUInt32).toInt32)).toUInt32 >>> ((1 : Int32) &&& 31).toUInt32).toInt32))))) else (if (((p0).toUInt32 >>> ((16 : Int32) &&& 31).toUInt32).toInt32) < (256 : Int32) then (if (((p0).toUInt32 >>> ((16 : Int32) &&& 31).toUInt32).toInt32) < (16 : Int32) then (if (((p0).toUInt32 >>> ((16 : Int32) &&& 31).toUInt32).toInt32) < (4 : Int32) then ((15 : Int32) - ((((((p0).toUInt32 >>> ((16 : Int32) &&& 31).toUInt32).toInt32)).toUInt32 >>> ((1 : Int32) &&& 31).toUInt32).toInt32)) else ((13 : Int32) - (((((((((p0).toUInt32 >>> ((16 : Int32) &&& 31).toUInt32).toInt32)).toUInt32 >>> ((2 : Int32) &&& 31).toUInt32).toInt32)).toUInt32 >>> ((1 : Int32) &&& 31).toUInt32).toInt32))) else (if ((((((p0).toUInt32 >>> ((16 : Int32) &&& 31).toUInt32).toInt32)).toUInt32 >>> ((4 : Int32) &&& 31).toUInt32).toInt32) < (4 : Int32) then ((11 : Int32) - (((((((((p0).toUInt32 >>> ((16 : Int32) &&& 31).toUInt32).toInt32)).toUInt32 >>> ((4 : Int32) &&& 31).toUInt32).toInt32)).toUInt32 >>> ((1 : Int32) &&& 31).toUInt32).toInt32)) else ((9 : Int32) - ((((((((((((p0).toUInt32 >>> ((16 : Int32) &&& 31).toUInt32).toInt32)).toUInt32 >>> ((4 : Int32) &&& 31).toUInt32).toInt32)).toUInt32 >>> ((2 : Int32) &&& 31).toUInt32).toInt32)).toUInt32 >>> ((1 : Int32) &&& 31).toUInt32).toInt32)))) else (if ((((((p0).toUInt32 >>> ((16 : Int32) &&& 31).toUInt32).toInt32)).toUInt32 >>> ((8 : Int32) &&& 31).toUInt32).toInt32) < (16 : Int32) then (if ((((((p0).toUInt32 >>> ((16 : Int32) &&& 31).toUInt32).toInt32)).toUInt32 >>> ((8 : Int32) &&& 31).toUInt32).toInt32) < (4 : Int32) then ((7 : Int32) - (((((((((p0).toUInt32 >>> ((16 : Int32) &&& 31).toUInt32).toInt32)).toUInt32 >>> ((8 : Int32) &&& 31).toUInt32).toInt32)).toUInt32 >>> ((1 : Int32) &&& 31).toUInt32).toInt32)) else ((5 : Int32) - ((((((((((((p0).toUInt32 >>> ((16 : Int32) &&& 31).toUInt32).toInt32)).toUInt32 >>> ((8 : Int32) &&& 31).toUInt32).toInt32)).toUInt32 >>> ((2 : Int32) &&& 31).toUInt32).toInt32)).toUInt32 >>> ((1 : Int32) &&& 31).toUInt32).toInt32))) else (if (((((((((p0).toUInt32 >>> ((16 : Int32) &&& 31).toUInt32).toInt32)).toUInt32 >>> ((8 : Int32) &&& 31).toUInt32).toInt32)).toUInt32 >>> ((4 : Int32) &&& 31).toUInt32).toInt32) < (4 : Int32) then ((3 : Int32) - ((((((((((((p0).toUInt32 >>> ((16 : Int32) &&& 31).toUInt32).toInt32)).toUInt32 >>> ((8 : Int32) &&& 31).toUInt32).toInt32)).toUInt32 >>> ((4 : Int32) &&& 31).toUInt32).toInt32)).toUInt32 >>> ((1 : Int32) &&& 31).toUInt32).toInt32)) else ((1 : Int32) - (((((((((((((((p0).toUInt32 >>> ((16 : Int32) &&& 31).toUInt32).toInt32)).toUInt32 >>> ((8 : Int32) &&& 31).toUInt32).toInt32)).toUInt32 >>> ((4 : Int32) &&& 31).toUInt32).toInt32)).toUInt32 >>> ((2 : Int32) &&& 31).toUInt32).toInt32)).toUInt32 >>> ((1 : Int32) &&& 31).toUInt32).toInt32)))))) else (if p0 = (0 : Int32) then (32 : Int32) else (0 : Int32)))
theorem d4_0 : decode jdk_33_method_47_code 0 = .ok (.iload_n 0, 1) := by decide +kernel
theorem d4_1 : decode jdk_33_method_47_code 1 = .ok (.ifCond .gt 14, 3) := by decide +kernel
theorem d4_4 : decode jdk_33_method_47_code 4 = .ok (.iload_n 0, 1) := by decide +kernel
theorem d4_5 : decode jdk_33_method_47_code 5 = .ok (.ifCond .ne 8, 3) := by decide +kernel
theorem d4_8 : decode jdk_33_method_47_code 8 = .ok (.bipush 32, 2) := by decide +kernel
theorem d4_10 : decode jdk_33_method_47_code 10 = .ok (.goto 4, 3) := by decide +kernel
theorem d4_13 : decode jdk_33_method_47_code 13 = .ok (.iconst 0, 1) := by decide +kernel
theorem d4_14 : decode jdk_33_method_47_code 14 = .ok (.ireturn, 1) := by decide +kernel
theorem d4_15 : decode jdk_33_method_47_code 15 = .ok (.bipush 31, 2) := by decide +kernel
theorem d4_17 : decode jdk_33_method_47_code 17 = .ok (.istore_n 1, 1) := by decide +kernel
theorem d4_18 : decode jdk_33_method_47_code 18 = .ok (.iload_n 0, 1) := by decide +kernel
theorem d4_19 : decode jdk_33_method_47_code 19 = .ok (.ldc_w 264, 3) := by decide +kernel
theorem d4_22 : decode jdk_33_method_47_code 22 = .ok (.if_icmp .lt 11, 3) := by decide +kernel
theorem d4_25 : decode jdk_33_method_47_code 25 = .ok (.iinc 1 (-16), 3) := by decide +kernel
theorem d4_28 : decode jdk_33_method_47_code 28 = .ok (.iload_n 0, 1) := by decide +kernel
theorem d4_29 : decode jdk_33_method_47_code 29 = .ok (.bipush 16, 2) := by decide +kernel
theorem d4_31 : decode jdk_33_method_47_code 31 = .ok (.iushr, 1) := by decide +kernel
theorem d4_32 : decode jdk_33_method_47_code 32 = .ok (.istore_n 0, 1) := by decide +kernel
theorem d4_33 : decode jdk_33_method_47_code 33 = .ok (.iload_n 0, 1) := by decide +kernel
theorem d4_34 : decode jdk_33_method_47_code 34 = .ok (.sipush 256, 3) := by decide +kernel
theorem d4_37 : decode jdk_33_method_47_code 37 = .ok (.if_icmp .lt 11, 3) := by decide +kernel
theorem d4_40 : decode jdk_33_method_47_code 40 = .ok (.iinc 1 (-8), 3) := by decide +kernel
theorem d4_43 : decode jdk_33_method_47_code 43 = .ok (.iload_n 0, 1) := by decide +kernel
theorem d4_44 : decode jdk_33_method_47_code 44 = .ok (.bipush 8, 2) := by decide +kernel
theorem d4_46 : decode jdk_33_method_47_code 46 = .ok (.iushr, 1) := by decide +kernel
theorem d4_47 : decode jdk_33_method_47_code 47 = .ok (.istore_n 0, 1) := by decide +kernel
theorem d4_48 : decode jdk_33_method_47_code 48 = .ok (.iload_n 0, 1) := by decide +kernel
theorem d4_49 : decode jdk_33_method_47_code 49 = .ok (.bipush 16, 2) := by decide +kernel
theorem d4_51 : decode jdk_33_method_47_code 51 = .ok (.if_icmp .lt 10, 3) := by decide +kernel
theorem d4_54 : decode jdk_33_method_47_code 54 = .ok (.iinc 1 (-4), 3) := by decide +kernel
theorem d4_57 : decode jdk_33_method_47_code 57 = .ok (.iload_n 0, 1) := by decide +kernel
theorem d4_58 : decode jdk_33_method_47_code 58 = .ok (.iconst 4, 1) := by decide +kernel
theorem d4_59 : decode jdk_33_method_47_code 59 = .ok (.iushr, 1) := by decide +kernel
theorem d4_60 : decode jdk_33_method_47_code 60 = .ok (.istore_n 0, 1) := by decide +kernel
theorem d4_61 : decode jdk_33_method_47_code 61 = .ok (.iload_n 0, 1) := by decide +kernel
theorem d4_62 : decode jdk_33_method_47_code 62 = .ok (.iconst 4, 1) := by decide +kernel
theorem d4_63 : decode jdk_33_method_47_code 63 = .ok (.if_icmp .lt 10, 3) := by decide +kernel
theorem d4_66 : decode jdk_33_method_47_code 66 = .ok (.iinc 1 (-2), 3) := by decide +kernel
theorem d4_69 : decode jdk_33_method_47_code 69 = .ok (.iload_n 0, 1) := by decide +kernel
theorem d4_70 : decode jdk_33_method_47_code 70 = .ok (.iconst 2, 1) := by decide +kernel
theorem d4_71 : decode jdk_33_method_47_code 71 = .ok (.iushr, 1) := by decide +kernel
theorem d4_72 : decode jdk_33_method_47_code 72 = .ok (.istore_n 0, 1) := by decide +kernel
theorem d4_73 : decode jdk_33_method_47_code 73 = .ok (.iload_n 1, 1) := by decide +kernel
theorem d4_74 : decode jdk_33_method_47_code 74 = .ok (.iload_n 0, 1) := by decide +kernel
theorem d4_75 : decode jdk_33_method_47_code 75 = .ok (.iconst 1, 1) := by decide +kernel
theorem d4_76 : decode jdk_33_method_47_code 76 = .ok (.iushr, 1) := by decide +kernel
theorem d4_77 : decode jdk_33_method_47_code 77 = .ok (.isub, 1) := by decide +kernel
theorem d4_78 : decode jdk_33_method_47_code 78 = .ok (.ireturn, 1) := by decide +kernel
theorem pn4 : plainName "java/lang/Integer" = true := by first | (simp [plainName, overriddenIn]; done) | decide +kernel
theorem ef4 (m : MethodId) (x0 : Int32) : entryFrame m #[(.int x0)] 2 = mkF m 0 #[.val (.int x0), .unset] [] := by first | (simp [entryFrame, mkF, argsToLocals, Value.category]; done) | rfl
set_option maxRecDepth 65536 in
set_option maxHeartbeats 40000000 in
theorem rm_f_inz (l : Launch) (Z : State) (a0 : Array Value) (hw : ∀ d ∈ tables_1, d.before a0 Z = true) (ws : List Jvm.Cond) (p0 : Int32) (h0 : Heap) (n0 : Nat) (Z0 : n0 ≤ h0.size)  :
    MetFree l (⟨"java/lang/Integer", "numberOfLeadingZeros", "(I)I"⟩ : MethodName) (head1 (Jvm.Cond.code (⟨"java/lang/Integer", "numberOfLeadingZeros", "(I)I"⟩ : MethodName) jdk_33_method_47_code 2 (some .int) :: ws) ({ frames := 0, cells := 0, slots := 0, locals := 0 } : Room)) (fun a U => a = #[(.int p0)] ∧ Z.Warmed39 U.vm ∧ U.heap = h0) (fun _ _ _ _ _ => True) (fun _ U o U' => ∃ v L, o = .returned v ∧ QP (some (.int (f_inz p0))) h0 n0 v U'.heap L ∧ FrameEnd U o U' L ({ frames := 0, cells := 0, slots := 0, locals := 0 } : Room).cells ({ frames := 0, cells := 0, slots := 0, locals := 0 } : Room).slots) := by
  refine MetFree.of_bodySF (plainFor_of_name pn4) hisR ?_
  intro p e s m args below meth c s₁ Bd hml0 hP hK
  obtain ⟨rfl, hZ, hh⟩ := hP
  have hx := Bd.exec
  have hby := Bd.bytes
  have hret := Bd.returns
  have hlk := Bd.notSynchronized
  have hml : c.maxLocals = 2 := hml0
  have hown : s.vm.findClass "java/lang/Integer" = some m.cls := findClass_of_methodNamed Bd.named
  have hnm := (name_of_methodNamed Bd.named Bd.method).1
  have X0 : Stand p l e ({ frames := 0, cells := 0, slots := 0, locals := 0 } : Room) s m #[(.int p0)] below meth c s₁ [] 0 0 := Stand.of_body Bd
  have e0 : s₁.heap = h0 := by rw [← hh, Bd.state]; rfl
  have N0 := Fr.nil n0
  show Wp p e below (fun o s₂ => ∃ v L, o = .returned v ∧ QP (some (.int (f_inz p0))) h0 n0 v s₂.heap L ∧ FrameEnd s o s₂ L ({ frames := 0, cells := 0, slots := 0, locals := 0 } : Room).cells ({ frames := 0, cells := 0, slots := 0, locals := 0 } : Room).slots) _
  refine Wp.back (U' := (s₁.setTop (mkF m 0 #[.val (.int p0), .unset] []))) (fun t k => castTop (ef4 m p0) k) ?_
  refine Wp.back (U' := (s₁.setTop (mkF m 1 #[.val (.int p0), .unset] [(.int p0)]))) (fun t k => XS.iloadN X0.here hx rfl (hb hby d4_0) rfl k) ?_
  by_cases c1_1 : (0 : Int32) < p0
  · refine Wp.back (U' := (s₁.setTop (mkF m 22 #[.val (.int p0), .val (.int (31 : Int32))] [(.int (65536 : Int32)), (.int p0)]))) (fun t k => XS.ifYes X0.here hx rfl (pc0 := 1) (pc' := 15) rfl (hb hby d4_1) rfl ((if0 _ _).trans (tlt c1_1).2.2.1) (by decide) (by decide) (XT.bipushV X0.here hx rfl (31 : Int32) (hb hby d4_15) (by decide) (XS.istoreN X0.here hx rfl (hb hby d4_17) rfl (l' := #[.val (.int p0), .val (.int (31 : Int32))]) rfl (XS.iloadN X0.here hx rfl (hb hby d4_18) rfl (Jvm.Stand.ldcWI X0 hx hown (mvT hZ (hw _ (List.mem_of_getElem? (i := 27) rfl))) rfl (hb hby d4_19) k))))) ?_
    by_cases c22_2 : p0 < (65536 : Int32)
    · refine Wp.back (U' := (s₁.setTop (mkF m 37 #[.val (.int p0), .val (.int (31 : Int32))] [(.int (256 : Int32)), (.int p0)]))) (fun t k => XS.icmpYes X0.here hx rfl (pc0 := 22) (pc' := 33) rfl (hb hby d4_22) rfl (tlt c22_2).1 (by decide) (by decide) (XS.iloadN X0.here hx rfl (hb hby d4_33) rfl (XT.sipushV X0.here hx rfl (256 : Int32) (hb hby d4_34) (by decide) k))) ?_
      by_cases c37_3 : p0 < (256 : Int32)
      · refine Wp.back (U' := (s₁.setTop (mkF m 51 #[.val (.int p0), .val (.int (31 : Int32))] [(.int (16 : Int32)), (.int p0)]))) (fun t k => XS.icmpYes X0.here hx rfl (pc0 := 37) (pc' := 48) rfl (hb hby d4_37) rfl (tlt c37_3).1 (by decide) (by decide) (XS.iloadN X0.here hx rfl (hb hby d4_48) rfl (XT.bipushV X0.here hx rfl (16 : Int32) (hb hby d4_49) (by decide) k))) ?_
        by_cases c51_4 : p0 < (16 : Int32)
        · refine Wp.back (U' := (s₁.setTop (mkF m 63 #[.val (.int p0), .val (.int (31 : Int32))] [(.int (4 : Int32)), (.int p0)]))) (fun t k => XS.icmpYes X0.here hx rfl (pc0 := 51) (pc' := 61) rfl (hb hby d4_51) rfl (tlt c51_4).1 (by decide) (by decide) (XS.iloadN X0.here hx rfl (hb hby d4_61) rfl (XT.iconstV X0.here hx rfl (4 : Int32) (hb hby d4_62) (by decide) k))) ?_
          by_cases c63_5 : p0 < (4 : Int32)
          · refine Wp.back (U' := (s₁.setTop (mkF m 78 #[.val (.int p0), .val (.int (31 : Int32))] [(.int ((31 : Int32) - (((p0).toUInt32 >>> ((1 : Int32) &&& 31).toUInt32).toInt32)))]))) (fun t k => XS.icmpYes X0.here hx rfl (pc0 := 63) (pc' := 73) rfl (hb hby d4_63) rfl (tlt c63_5).1 (by decide) (by decide) (XS.iloadN X0.here hx rfl (hb hby d4_73) rfl (XS.iloadN X0.here hx rfl (hb hby d4_74) rfl (XT.iconstV X0.here hx rfl (1 : Int32) (hb hby d4_75) (by decide) (XS.iushr X0.here hx rfl (hb hby d4_76) rfl (XS.isub X0.here hx rfl (hb hby d4_77) rfl k)))))) ?_
            obtain ⟨fs, hr, hrun, hended, hW, hsame⟩ := X0.leave (v := (some (.int ((31 : Int32) - (((p0).toUInt32 >>> ((1 : Int32) &&& 31).toUInt32).toInt32))))) (fun h => by rw [hret] at h; cases h)
            refine Wp.done (retI X0 hx hret (hb hby d4_78) hr) hrun hended ⟨_, _, rfl, ?_, ⟨_, rfl⟩, hW, hsame.mono (by decide) (by decide)⟩
            show QP _ h0 n0 _ s₁.heap _
            exact ⟨(by rw [f_inz, if_pos c1_1, if_pos c22_2, if_pos c37_3, if_pos c51_4, if_pos c63_5]), N0, e0⟩
          · refine Wp.back (U' := (s₁.setTop (mkF m 78 #[.val (.int (((p0).toUInt32 >>> ((2 : Int32) &&& 31).toUInt32).toInt32)), .val (.int (29 : Int32))] [(.int ((29 : Int32) - ((((((p0).toUInt32 >>> ((2 : Int32) &&& 31).toUInt32).toInt32)).toUInt32 >>> ((1 : Int32) &&& 31).toUInt32).toInt32)))]))) (fun t k => XS.icmpNo X0.here hx rfl (hb hby d4_63) rfl (flt c63_5).1 (XT.iincV X0.here hx rfl (-2 : Int32) (hb hby d4_66) (by decide) rfl (l' := #[.val (.int p0), .val (.int (29 : Int32))]) rfl (XS.iloadN X0.here hx rfl (hb hby d4_69) rfl (XT.iconstV X0.here hx rfl (2 : Int32) (hb hby d4_70) (by decide) (XS.iushr X0.here hx rfl (hb hby d4_71) rfl (XS.istoreN X0.here hx rfl (hb hby d4_72) rfl (l' := #[.val (.int (((p0).toUInt32 >>> ((2 : Int32) &&& 31).toUInt32).toInt32)), .val (.int (29 : Int32))]) rfl (XS.iloadN X0.here hx rfl (hb hby d4_73) rfl (XS.iloadN X0.here hx rfl (hb hby d4_74) rfl (XT.iconstV X0.here hx rfl (1 : Int32) (hb hby d4_75) (by decide) (XS.iushr X0.here hx rfl (hb hby d4_76) rfl (XS.isub X0.here hx rfl (hb hby d4_77) rfl k))))))))))) ?_
            obtain ⟨fs, hr, hrun, hended, hW, hsame⟩ := X0.leave (v := (some (.int ((29 : Int32) - ((((((p0).toUInt32 >>> ((2 : Int32) &&& 31).toUInt32).toInt32)).toUInt32 >>> ((1 : Int32) &&& 31).toUInt32).toInt32))))) (fun h => by rw [hret] at h; cases h)
            refine Wp.done (retI X0 hx hret (hb hby d4_78) hr) hrun hended ⟨_, _, rfl, ?_, ⟨_, rfl⟩, hW, hsame.mono (by decide) (by decide)⟩
            show QP _ h0 n0 _ s₁.heap _
            exact ⟨(by rw [f_inz, if_pos c1_1, if_pos c22_2, if_pos c37_3, if_pos c51_4, if_neg c63_5]), N0, e0⟩
        · refine Wp.back (U' := (s₁.setTop (mkF m 63 #[.val (.int (((p0).toUInt32 >>> ((4 : Int32) &&& 31).toUInt32).toInt32)), .val (.int (27 : Int32))] [(.int (4 : Int32)), (.int (((p0).toUInt32 >>> ((4 : Int32) &&& 31).toUInt32).toInt32))]))) (fun t k => XS.icmpNo X0.here hx rfl (hb hby d4_51) rfl (flt c51_4).1 (XT.iincV X0.here hx rfl (-4 : Int32) (hb hby d4_54) (by decide) rfl (l' := #[.val (.int p0), .val (.int (27 : Int32))]) rfl (XS.iloadN X0.here hx rfl (hb hby d4_57) rfl (XT.iconstV X0.here hx rfl (4 : Int32) (hb hby d4_58) (by decide) (XS.iushr X0.here hx rfl (hb hby d4_59) rfl (XS.istoreN X0.here hx rfl (hb hby d4_60) rfl (l' := #[.val (.int (((p0).toUInt32 >>> ((4 : Int32) &&& 31).toUInt32).toInt32)), .val (.int (27 : Int32))]) rfl (XS.iloadN X0.here hx rfl (hb hby d4_61) rfl (XT.iconstV X0.here hx rfl (4 : Int32) (hb hby d4_62) (by decide) k)))))))) ?_
          by_cases c63_6 : (((p0).toUInt32 >>> ((4 : Int32) &&& 31).toUInt32).toInt32) < (4 : Int32)
          · refine Wp.back (U' := (s₁.setTop (mkF m 78 #[.val (.int (((p0).toUInt32 >>> ((4 : Int32) &&& 31).toUInt32).toInt32)), .val (.int (27 : Int32))] [(.int ((27 : Int32) - ((((((p0).toUInt32 >>> ((4 : Int32) &&& 31).toUInt32).toInt32)).toUInt32 >>> ((1 : Int32) &&& 31).toUInt32).toInt32)))]))) (fun t k => XS.icmpYes X0.here hx rfl (pc0 := 63) (pc' := 73) rfl (hb hby d4_63) rfl (tlt c63_6).1 (by decide) (by decide) (XS.iloadN X0.here hx rfl (hb hby d4_73) rfl (XS.iloadN X0.here hx rfl (hb hby d4_74) rfl (XT.iconstV X0.here hx rfl (1 : Int32) (hb hby d4_75) (by decide) (XS.iushr X0.here hx rfl (hb hby d4_76) rfl (XS.isub X0.here hx rfl (hb hby d4_77) rfl k)))))) ?_
            obtain ⟨fs, hr, hrun, hended, hW, hsame⟩ := X0.leave (v := (some (.int ((27 : Int32) - ((((((p0).toUInt32 >>> ((4 : Int32) &&& 31).toUInt32).toInt32)).toUInt32 >>> ((1 : Int32) &&& 31).toUInt32).toInt32))))) (fun h => by rw [hret] at h; cases h)
            refine Wp.done (retI X0 hx hret (hb hby d4_78) hr) hrun hended ⟨_, _, rfl, ?_, ⟨_, rfl⟩, hW, hsame.mono (by decide) (by decide)⟩
            show QP _ h0 n0 _ s₁.heap _
            exact ⟨(by rw [f_inz, if_pos c1_1, if_pos c22_2, if_pos c37_3, if_neg c51_4, if_pos c63_6]), N0, e0⟩
          · refine Wp.back (U' := (s₁.setTop (mkF m 78 #[.val (.int ((((((p0).toUInt32 >>> ((4 : Int32) &&& 31).toUInt32).toInt32)).toUInt32 >>> ((2 : Int32) &&& 31).toUInt32).toInt32)), .val (.int (25 : Int32))] [(.int ((25 : Int32) - (((((((((p0).toUInt32 >>> ((4 : Int32) &&& 31).toUInt32).toInt32)).toUInt32 >>> ((2 : Int32) &&& 31).toUInt32).toInt32)).toUInt32 >>> ((1 : Int32) &&& 31).toUInt32).toInt32)))]))) (fun t k => XS.icmpNo X0.here hx rfl (hb hby d4_63) rfl (flt c63_6).1 (XT.iincV X0.here hx rfl (-2 : Int32) (hb hby d4_66) (by decide) rfl (l' := #[.val (.int (((p0).toUInt32 >>> ((4 : Int32) &&& 31).toUInt32).toInt32)), .val (.int (25 : Int32))]) rfl (XS.iloadN X0.here hx rfl (hb hby d4_69) rfl (XT.iconstV X0.here hx rfl (2 : Int32) (hb hby d4_70) (by decide) (XS.iushr X0.here hx rfl (hb hby d4_71) rfl (XS.istoreN X0.here hx rfl (hb hby d4_72) rfl (l' := #[.val (.int ((((((p0).toUInt32 >>> ((4 : Int32) &&& 31).toUInt32).toInt32)).toUInt32 >>> ((2 : Int32) &&& 31).toUInt32).toInt32)), .val (.int (25 : Int32))]) rfl (XS.iloadN X0.here hx rfl (hb hby d4_73) rfl (XS.iloadN X0.here hx rfl (hb hby d4_74) rfl (XT.iconstV X0.here hx rfl (1 : Int32) (hb hby d4_75) (by decide) (XS.iushr X0.here hx rfl (hb hby d4_76) rfl (XS.isub X0.here hx rfl (hb hby d4_77) rfl k))))))))))) ?_
            obtain ⟨fs, hr, hrun, hended, hW, hsame⟩ := X0.leave (v := (some (.int ((25 : Int32) - (((((((((p0).toUInt32 >>> ((4 : Int32) &&& 31).toUInt32).toInt32)).toUInt32 >>> ((2 : Int32) &&& 31).toUInt32).toInt32)).toUInt32 >>> ((1 : Int32) &&& 31).toUInt32).toInt32))))) (fun h => by rw [hret] at h; cases h)
            refine Wp.done (retI X0 hx hret (hb hby d4_78) hr) hrun hended ⟨_, _, rfl, ?_, ⟨_, rfl⟩, hW, hsame.mono (by decide) (by decide)⟩
            show QP _ h0 n0 _ s₁.heap _
            exact ⟨(by rw [f_inz, if_pos c1_1, if_pos c22_2, if_pos c37_3, if_neg c51_4, if_neg c63_6]), N0, e0⟩
      · refine Wp.back (U' := (s₁.setTop (mkF m 51 #[.val (.int (((p0).toUInt32 >>> ((8 : Int32) &&& 31).toUInt32).toInt32)), .val (.int (23 : Int32))] [(.int (16 : Int32)), (.int (((p0).toUInt32 >>> ((8 : Int32) &&& 31).toUInt32).toInt32))]))) (fun t k => XS.icmpNo X0.here hx rfl (hb hby d4_37) rfl (flt c37_3).1 (XT.iincV X0.here hx rfl (-8 : Int32) (hb hby d4_40) (by decide) rfl (l' := #[.val (.int p0), .val (.int (23 : Int32))]) rfl (XS.iloadN X0.here hx rfl (hb hby d4_43) rfl (XT.bipushV X0.here hx rfl (8 : Int32) (hb hby d4_44) (by decide) (XS.iushr X0.here hx rfl (hb hby d4_46) rfl (XS.istoreN X0.here hx rfl (hb hby d4_47) rfl (l' := #[.val (.int (((p0).toUInt32 >>> ((8 : Int32) &&& 31).toUInt32).toInt32)), .val (.int (23 : Int32))]) rfl (XS.iloadN X0.here hx rfl (hb hby d4_48) rfl (XT.bipushV X0.here hx rfl (16 : Int32) (hb hby d4_49) (by decide) k)))))))) ?_
        by_cases c51_7 : (((p0).toUInt32 >>> ((8 : Int32) &&& 31).toUInt32).toInt32) < (16 : Int32)
        · refine Wp.back (U' := (s₁.setTop (mkF m 63 #[.val (.int (((p0).toUInt32 >>> ((8 : Int32) &&& 31).toUInt32).toInt32)), .val (.int (23 : Int32))] [(.int (4 : Int32)), (.int (((p0).toUInt32 >>> ((8 : Int32) &&& 31).toUInt32).toInt32))]))) (fun t k => XS.icmpYes X0.here hx rfl (pc0 := 51) (pc' := 61) rfl (hb hby d4_51) rfl (tlt c51_7).1 (by decide) (by decide) (XS.iloadN X0.here hx rfl (hb hby d4_61) rfl (XT.iconstV X0.here hx rfl (4 : Int32) (hb hby d4_62) (by decide) k))) ?_
          by_cases c63_8 : (((p0).toUInt32 >>> ((8 : Int32) &&& 31).toUInt32).toInt32) < (4 : Int32)
          · refine Wp.back (U' := (s₁.setTop (mkF m 78 #[.val (.int (((p0).toUInt32 >>> ((8 : Int32) &&& 31).toUInt32).toInt32)), .val (.int (23 : Int32))] [(.int ((23 : Int32) - ((((((p0).toUInt32 >>> ((8 : Int32) &&& 31).toUInt32).toInt32)).toUInt32 >>> ((1 : Int32) &&& 31).toUInt32).toInt32)))]))) (fun t k => XS.icmpYes X0.here hx rfl (pc0 := 63) (pc' := 73) rfl (hb hby d4_63) rfl (tlt c63_8).1 (by decide) (by decide) (XS.iloadN X0.here hx rfl (hb hby d4_73) rfl (XS.iloadN X0.here hx rfl (hb hby d4_74) rfl (XT.iconstV X0.here hx rfl (1 : Int32) (hb hby d4_75) (by decide) (XS.iushr X0.here hx rfl (hb hby d4_76) rfl (XS.isub X0.here hx rfl (hb hby d4_77) rfl k)))))) ?_
            obtain ⟨fs, hr, hrun, hended, hW, hsame⟩ := X0.leave (v := (some (.int ((23 : Int32) - ((((((p0).toUInt32 >>> ((8 : Int32) &&& 31).toUInt32).toInt32)).toUInt32 >>> ((1 : Int32) &&& 31).toUInt32).toInt32))))) (fun h => by rw [hret] at h; cases h)
            refine Wp.done (retI X0 hx hret (hb hby d4_78) hr) hrun hended ⟨_, _, rfl, ?_, ⟨_, rfl⟩, hW, hsame.mono (by decide) (by decide)⟩
            show QP _ h0 n0 _ s₁.heap _
            exact ⟨(by rw [f_inz, if_pos c1_1, if_pos c22_2, if_neg c37_3, if_pos c51_7, if_pos c63_8]), N0, e0⟩
          · refine Wp.back (U' := (s₁.setTop (mkF m 78 #[.val (.int ((((((p0).toUInt32 >>> ((8 : Int32) &&& 31).toUInt32).toInt32)).toUInt32 >>> ((2 : Int32) &&& 31).toUInt32).toInt32)), .val (.int (21 : Int32))] [(.int ((21 : Int32) - (((((((((p0).toUInt32 >>> ((8 : Int32) &&& 31).toUInt32).toInt32)).toUInt32 >>> ((2 : Int32) &&& 31).toUInt32).toInt32)).toUInt32 >>> ((1 : Int32) &&& 31).toUInt32).toInt32)))]))) (fun t k => XS.icmpNo X0.here hx rfl (hb hby d4_63) rfl (flt c63_8).1 (XT.iincV X0.here hx rfl (-2 : Int32) (hb hby d4_66) (by decide) rfl (l' := #[.val (.int (((p0).toUInt32 >>> ((8 : Int32) &&& 31).toUInt32).toInt32)), .val (.int (21 : Int32))]) rfl (XS.iloadN X0.here hx rfl (hb hby d4_69) rfl (XT.iconstV X0.here hx rfl (2 : Int32) (hb hby d4_70) (by decide) (XS.iushr X0.here hx rfl (hb hby d4_71) rfl (XS.istoreN X0.here hx rfl (hb hby d4_72) rfl (l' := #[.val (.int ((((((p0).toUInt32 >>> ((8 : Int32) &&& 31).toUInt32).toInt32)).toUInt32 >>> ((2 : Int32) &&& 31).toUInt32).toInt32)), .val (.int (21 : Int32))]) rfl (XS.iloadN X0.here hx rfl (hb hby d4_73) rfl (XS.iloadN X0.here hx rfl (hb hby d4_74) rfl (XT.iconstV X0.here hx rfl (1 : Int32) (hb hby d4_75) (by decide) (XS.iushr X0.here hx rfl (hb hby d4_76) rfl (XS.isub X0.here hx rfl (hb hby d4_77) rfl k))))))))))) ?_
            obtain ⟨fs, hr, hrun, hended, hW, hsame⟩ := X0.leave (v := (some (.int ((21 : Int32) - (((((((((p0).toUInt32 >>> ((8 : Int32) &&& 31).toUInt32).toInt32)).toUInt32 >>> ((2 : Int32) &&& 31).toUInt32).toInt32)).toUInt32 >>> ((1 : Int32) &&& 31).toUInt32).toInt32))))) (fun h => by rw [hret] at h; cases h)
            refine Wp.done (retI X0 hx hret (hb hby d4_78) hr) hrun hended ⟨_, _, rfl, ?_, ⟨_, rfl⟩, hW, hsame.mono (by decide) (by decide)⟩
            show QP _ h0 n0 _ s₁.heap _
            exact ⟨(by rw [f_inz, if_pos c1_1, if_pos c22_2, if_neg c37_3, if_pos c51_7, if_neg c63_8]), N0, e0⟩
        · refine Wp.back (U' := (s₁.setTop (mkF m 63 #[.val (.int ((((((p0).toUInt32 >>> ((8 : Int32) &&& 31).toUInt32).toInt32)).toUInt32 >>> ((4 : Int32) &&& 31).toUInt32).toInt32)), .val (.int (19 : Int32))] [(.int (4 : Int32)), (.int ((((((p0).toUInt32 >>> ((8 : Int32) &&& 31).toUInt32).toInt32)).toUInt32 >>> ((4 : Int32) &&& 31).toUInt32).toInt32))]))) (fun t k => XS.icmpNo X0.here hx rfl (hb hby d4_51) rfl (flt c51_7).1 (XT.iincV X0.here hx rfl (-4 : Int32) (hb hby d4_54) (by decide) rfl (l' := #[.val (.int (((p0).toUInt32 >>> ((8 : Int32) &&& 31).toUInt32).toInt32)), .val (.int (19 : Int32))]) rfl (XS.iloadN X0.here hx rfl (hb hby d4_57) rfl (XT.iconstV X0.here hx rfl (4 : Int32) (hb hby d4_58) (by decide) (XS.iushr X0.here hx rfl (hb hby d4_59) rfl (XS.istoreN X0.here hx rfl (hb hby d4_60) rfl (l' := #[.val (.int ((((((p0).toUInt32 >>> ((8 : Int32) &&& 31).toUInt32).toInt32)).toUInt32 >>> ((4 : Int32) &&& 31).toUInt32).toInt32)), .val (.int (19 : Int32))]) rfl (XS.iloadN X0.here hx rfl (hb hby d4_61) rfl (XT.iconstV X0.here hx rfl (4 : Int32) (hb hby d4_62) (by decide) k)))))))) ?_
          by_cases c63_9 : ((((((p0).toUInt32 >>> ((8 : Int32) &&& 31).toUInt32).toInt32)).toUInt32 >>> ((4 : Int32) &&& 31).toUInt32).toInt32) < (4 : Int32)
          · refine Wp.back (U' := (s₁.setTop (mkF m 78 #[.val (.int ((((((p0).toUInt32 >>> ((8 : Int32) &&& 31).toUInt32).toInt32)).toUInt32 >>> ((4 : Int32) &&& 31).toUInt32).toInt32)), .val (.int (19 : Int32))] [(.int ((19 : Int32) - (((((((((p0).toUInt32 >>> ((8 : Int32) &&& 31).toUInt32).toInt32)).toUInt32 >>> ((4 : Int32) &&& 31).toUInt32).toInt32)).toUInt32 >>> ((1 : Int32) &&& 31).toUInt32).toInt32)))]))) (fun t k => XS.icmpYes X0.here hx rfl (pc0 := 63) (pc' := 73) rfl (hb hby d4_63) rfl (tlt c63_9).1 (by decide) (by decide) (XS.iloadN X0.here hx rfl (hb hby d4_73) rfl (XS.iloadN X0.here hx rfl (hb hby d4_74) rfl (XT.iconstV X0.here hx rfl (1 : Int32) (hb hby d4_75) (by decide) (XS.iushr X0.here hx rfl (hb hby d4_76) rfl (XS.isub X0.here hx rfl (hb hby d4_77) rfl k)))))) ?_
            obtain ⟨fs, hr, hrun, hended, hW, hsame⟩ := X0.leave (v := (some (.int ((19 : Int32) - (((((((((p0).toUInt32 >>> ((8 : Int32) &&& 31).toUInt32).toInt32)).toUInt32 >>> ((4 : Int32) &&& 31).toUInt32).toInt32)).toUInt32 >>> ((1 : Int32) &&& 31).toUInt32).toInt32))))) (fun h => by rw [hret] at h; cases h)
            refine Wp.done (retI X0 hx hret (hb hby d4_78) hr) hrun hended ⟨_, _, rfl, ?_, ⟨_, rfl⟩, hW, hsame.mono (by decide) (by decide)⟩
            show QP _ h0 n0 _ s₁.heap _
            exact ⟨(by rw [f_inz, if_pos c1_1, if_pos c22_2, if_neg c37_3, if_neg c51_7, if_pos c63_9]), N0, e0⟩
          · refine Wp.back (U' := (s₁.setTop (mkF m 78 #[.val (.int (((((((((p0).toUInt32 >>> ((8 : Int32) &&& 31).toUInt32).toInt32)).toUInt32 >>> ((4 : Int32) &&& 31).toUInt32).toInt32)).toUInt32 >>> ((2 : Int32) &&& 31).toUInt32).toInt32)), .val (.int (17 : Int32))] [(.int ((17 : Int32) - ((((((((((((p0).toUInt32 >>> ((8 : Int32) &&& 31).toUInt32).toInt32)).toUInt32 >>> ((4 : Int32) &&& 31).toUInt32).toInt32)).toUInt32 >>> ((2 : Int32) &&& 31).toUInt32).toInt32)).toUInt32 >>> ((1 : Int32) &&& 31).toUInt32).toInt32)))]))) (fun t k => XS.icmpNo X0.here hx rfl (hb hby d4_63) rfl (flt c63_9).1 (XT.iincV X0.here hx rfl (-2 : Int32) (hb hby d4_66) (by decide) rfl (l' := #[.val (.int ((((((p0).toUInt32 >>> ((8 : Int32) &&& 31).toUInt32).toInt32)).toUInt32 >>> ((4 : Int32) &&& 31).toUInt32).toInt32)), .val (.int (17 : Int32))]) rfl (XS.iloadN X0.here hx rfl (hb hby d4_69) rfl (XT.iconstV X0.here hx rfl (2 : Int32) (hb hby d4_70) (by decide) (XS.iushr X0.here hx rfl (hb hby d4_71) rfl (XS.istoreN X0.here hx rfl (hb hby d4_72) rfl (l' := #[.val (.int (((((((((p0).toUInt32 >>> ((8 : Int32) &&& 31).toUInt32).toInt32)).toUInt32 >>> ((4 : Int32) &&& 31).toUInt32).toInt32)).toUInt32 >>> ((2 : Int32) &&& 31).toUInt32).toInt32)), .val (.int (17 : Int32))]) rfl (XS.iloadN X0.here hx rfl (hb hby d4_73) rfl (XS.iloadN X0.here hx rfl (hb hby d4_74) rfl (XT.iconstV X0.here hx rfl (1 : Int32) (hb hby d4_75) (by decide) (XS.iushr X0.here hx rfl (hb hby d4_76) rfl (XS.isub X0.here hx rfl (hb hby d4_77) rfl k))))))))))) ?_
            obtain ⟨fs, hr, hrun, hended, hW, hsame⟩ := X0.leave (v := (some (.int ((17 : Int32) - ((((((((((((p0).toUInt32 >>> ((8 : Int32) &&& 31).toUInt32).toInt32)).toUInt32 >>> ((4 : Int32) &&& 31).toUInt32).toInt32)).toUInt32 >>> ((2 : Int32) &&& 31).toUInt32).toInt32)).toUInt32 >>> ((1 : Int32) &&& 31).toUInt32).toInt32))))) (fun h => by rw [hret] at h; cases h)
            refine Wp.done (retI X0 hx hret (hb hby d4_78) hr) hrun hended ⟨_, _, rfl, ?_, ⟨_, rfl⟩, hW, hsame.mono (by decide) (by decide)⟩
            show QP _ h0 n0 _ s₁.heap _
            exact ⟨(by rw [f_inz, if_pos c1_1, if_pos c22_2, if_neg c37_3, if_neg c51_7, if_neg c63_9]), N0, e0⟩
    · refine Wp.back (U' := (s₁.setTop (mkF m 37 #[.val (.int (((p0).toUInt32 >>> ((16 : Int32) &&& 31).toUInt32).toInt32)), .val (.int (15 : Int32))] [(.int (256 : Int32)), (.int (((p0).toUInt32 >>> ((16 : Int32) &&& 31).toUInt32).toInt32))]))) (fun t k => XS.icmpNo X0.here hx rfl (hb hby d4_22) rfl (flt c22_2).1 (XT.iincV X0.here hx rfl (-16 : Int32) (hb hby d4_25) (by decide) rfl (l' := #[.val (.int p0), .val (.int (15 : Int32))]) rfl (XS.iloadN X0.here hx rfl (hb hby d4_28) rfl (XT.bipushV X0.here hx rfl (16 : Int32) (hb hby d4_29) (by decide) (XS.iushr X0.here hx rfl (hb hby d4_31) rfl (XS.istoreN X0.here hx rfl (hb hby d4_32) rfl (l' := #[.val (.int (((p0).toUInt32 >>> ((16 : Int32) &&& 31).toUInt32).toInt32)), .val (.int (15 : Int32))]) rfl (XS.iloadN X0.here hx rfl (hb hby d4_33) rfl (XT.sipushV X0.here hx rfl (256 : Int32) (hb hby d4_34) (by decide) k)))))))) ?_
      by_cases c37_10 : (((p0).toUInt32 >>> ((16 : Int32) &&& 31).toUInt32).toInt32) < (256 : Int32)
      · refine Wp.back (U' := (s₁.setTop (mkF m 51 #[.val (.int (((p0).toUInt32 >>> ((16 : Int32) &&& 31).toUInt32).toInt32)), .val (.int (15 : Int32))] [(.int (16 : Int32)), (.int (((p0).toUInt32 >>> ((16 : Int32) &&& 31).toUInt32).toInt32))]))) (fun t k => XS.icmpYes X0.here hx rfl (pc0 := 37) (pc' := 48) rfl (hb hby d4_37) rfl (tlt c37_10).1 (by decide) (by decide) (XS.iloadN X0.here hx rfl (hb hby d4_48) rfl (XT.bipushV X0.here hx rfl (16 : Int32) (hb hby d4_49) (by decide) k))) ?_
        by_cases c51_11 : (((p0).toUInt32 >>> ((16 : Int32) &&& 31).toUInt32).toInt32) < (16 : Int32)
        · refine Wp.back (U' := (s₁.setTop (mkF m 63 #[.val (.int (((p0).toUInt32 >>> ((16 : Int32) &&& 31).toUInt32).toInt32)), .val (.int (15 : Int32))] [(.int (4 : Int32)), (.int (((p0).toUInt32 >>> ((16 : Int32) &&& 31).toUInt32).toInt32))]))) (fun t k => XS.icmpYes X0.here hx rfl (pc0 := 51) (pc' := 61) rfl (hb hby d4_51) rfl (tlt c51_11).1 (by decide) (by decide) (XS.iloadN X0.here hx rfl (hb hby d4_61) rfl (XT.iconstV X0.here hx rfl (4 : Int32) (hb hby d4_62) (by decide) k))) ?_
          by_cases c63_12 : (((p0).toUInt32 >>> ((16 : Int32) &&& 31).toUInt32).toInt32) < (4 : Int32)
          · refine Wp.back (U' := (s₁.setTop (mkF m 78 #[.val (.int (((p0).toUInt32 >>> ((16 : Int32) &&& 31).toUInt32).toInt32)), .val (.int (15 : Int32))] [(.int ((15 : Int32) - ((((((p0).toUInt32 >>> ((16 : Int32) &&& 31).toUInt32).toInt32)).toUInt32 >>> ((1 : Int32) &&& 31).toUInt32).toInt32)))]))) (fun t k => XS.icmpYes X0.here hx rfl (pc0 := 63) (pc' := 73) rfl (hb hby d4_63) rfl (tlt c63_12).1 (by decide) (by decide) (XS.iloadN X0.here hx rfl (hb hby d4_73) rfl (XS.iloadN X0.here hx rfl (hb hby d4_74) rfl (XT.iconstV X0.here hx rfl (1 : Int32) (hb hby d4_75) (by decide) (XS.iushr X0.here hx rfl (hb hby d4_76) rfl (XS.isub X0.here hx rfl (hb hby d4_77) rfl k)))))) ?_
            obtain ⟨fs, hr, hrun, hended, hW, hsame⟩ := X0.leave (v := (some (.int ((15 : Int32) - ((((((p0).toUInt32 >>> ((16 : Int32) &&& 31).toUInt32).toInt32)).toUInt32 >>> ((1 : Int32) &&& 31).toUInt32).toInt32))))) (fun h => by rw [hret] at h; cases h)
            refine Wp.done (retI X0 hx hret (hb hby d4_78) hr) hrun hended ⟨_, _, rfl, ?_, ⟨_, rfl⟩, hW, hsame.mono (by decide) (by decide)⟩
            show QP _ h0 n0 _ s₁.heap _
            exact ⟨(by rw [f_inz, if_pos c1_1, if_neg c22_2, if_pos c37_10, if_pos c51_11, if_pos c63_12]), N0, e0⟩
          · refine Wp.back (U' := (s₁.setTop (mkF m 78 #[.val (.int ((((((p0).toUInt32 >>> ((16 : Int32) &&& 31).toUInt32).toInt32)).toUInt32 >>> ((2 : Int32) &&& 31).toUInt32).toInt32)), .val (.int (13 : Int32))] [(.int ((13 : Int32) - (((((((((p0).toUInt32 >>> ((16 : Int32) &&& 31).toUInt32).toInt32)).toUInt32 >>> ((2 : Int32) &&& 31).toUInt32).toInt32)).toUInt32 >>> ((1 : Int32) &&& 31).toUInt32).toInt32)))]))) (fun t k => XS.icmpNo X0.here hx rfl (hb hby d4_63) rfl (flt c63_12).1 (XT.iincV X0.here hx rfl (-2 : Int32) (hb hby d4_66) (by decide) rfl (l' := #[.val (.int (((p0).toUInt32 >>> ((16 : Int32) &&& 31).toUInt32).toInt32)), .val (.int (13 : Int32))]) rfl (XS.iloadN X0.here hx rfl (hb hby d4_69) rfl (XT.iconstV X0.here hx rfl (2 : Int32) (hb hby d4_70) (by decide) (XS.iushr X0.here hx rfl (hb hby d4_71) rfl (XS.istoreN X0.here hx rfl (hb hby d4_72) rfl (l' := #[.val (.int ((((((p0).toUInt32 >>> ((16 : Int32) &&& 31).toUInt32).toInt32)).toUInt32 >>> ((2 : Int32) &&& 31).toUInt32).toInt32)), .val (.int (13 : Int32))]) rfl (XS.iloadN X0.here hx rfl (hb hby d4_73) rfl (XS.iloadN X0.here hx rfl (hb hby d4_74) rfl (XT.iconstV X0.here hx rfl (1 : Int32) (hb hby d4_75) (by decide) (XS.iushr X0.here hx rfl (hb hby d4_76) rfl (XS.isub X0.here hx rfl (hb hby d4_77) rfl k))))))))))) ?_
            obtain ⟨fs, hr, hrun, hended, hW, hsame⟩ := X0.leave (v := (some (.int ((13 : Int32) - (((((((((p0).toUInt32 >>> ((16 : Int32) &&& 31).toUInt32).toInt32)).toUInt32 >>> ((2 : Int32) &&& 31).toUInt32).toInt32)).toUInt32 >>> ((1 : Int32) &&& 31).toUInt32).toInt32))))) (fun h => by rw [hret] at h; cases h)
            refine Wp.done (retI X0 hx hret (hb hby d4_78) hr) hrun hended ⟨_, _, rfl, ?_, ⟨_, rfl⟩, hW, hsame.mono (by decide) (by decide)⟩
            show QP _ h0 n0 _ s₁.heap _
            exact ⟨(by rw [f_inz, if_pos c1_1, if_neg c22_2, if_pos c37_10, if_pos c51_11, if_neg c63_12]), N0, e0⟩
        · refine Wp.back (U' := (s₁.setTop (mkF m 63 #[.val (.int ((((((p0).toUInt32 >>> ((16 : Int32) &&& 31).toUInt32).toInt32)).toUInt32 >>> ((4 : Int32) &&& 31).toUInt32).toInt32)), .val (.int (11 : Int32))] [(.int (4 : Int32)), (.int ((((((p0).toUInt32 >>> ((16 : Int32) &&& 31).toUInt32).toInt32)).toUInt32 >>> ((4 : Int32) &&& 31).toUInt32).toInt32))]))) (fun t k => XS.icmpNo X0.here hx rfl (hb hby d4_51) rfl (flt c51_11).1 (XT.iincV X0.here hx rfl (-4 : Int32) (hb hby d4_54) (by decide) rfl (l' := #[.val (.int (((p0).toUInt32 >>> ((16 : Int32) &&& 31).toUInt32).toInt32)), .val (.int (11 : Int32))]) rfl (XS.iloadN X0.here hx rfl (hb hby d4_57) rfl (XT.iconstV X0.here hx rfl (4 : Int32) (hb hby d4_58) (by decide) (XS.iushr X0.here hx rfl (hb hby d4_59) rfl (XS.istoreN X0.here hx rfl (hb hby d4_60) rfl (l' := #[.val (.int ((((((p0).toUInt32 >>> ((16 : Int32) &&& 31).toUInt32).toInt32)).toUInt32 >>> ((4 : Int32) &&& 31).toUInt32).toInt32)), .val (.int (11 : Int32))]) rfl (XS.iloadN X0.here hx rfl (hb hby d4_61) rfl (XT.iconstV X0.here hx rfl (4 : Int32) (hb hby d4_62) (by decide) k)))))))) ?_
          by_cases c63_13 : ((((((p0).toUInt32 >>> ((16 : Int32) &&& 31).toUInt32).toInt32)).toUInt32 >>> ((4 : Int32) &&& 31).toUInt32).toInt32) < (4 : Int32)
          · refine Wp.back (U' := (s₁.setTop (mkF m 78 #[.val (.int ((((((p0).toUInt32 >>> ((16 : Int32) &&& 31).toUInt32).toInt32)).toUInt32 >>> ((4 : Int32) &&& 31).toUInt32).toInt32)), .val (.int (11 : Int32))] [(.int ((11 : Int32) - (((((((((p0).toUInt32 >>> ((16 : Int32) &&& 31).toUInt32).toInt32)).toUInt32 >>> ((4 : Int32) &&& 31).toUInt32).toInt32)).toUInt32 >>> ((1 : Int32) &&& 31).toUInt32).toInt32)))]))) (fun t k => XS.icmpYes X0.here hx rfl (pc0 := 63) (pc' := 73) rfl (hb hby d4_63) rfl (tlt c63_13).1 (by decide) (by decide) (XS.iloadN X0.here hx rfl (hb hby d4_73) rfl (XS.iloadN X0.here hx rfl (hb hby d4_74) rfl (XT.iconstV X0.here hx rfl (1 : Int32) (hb hby d4_75) (by decide) (XS.iushr X0.here hx rfl (hb hby d4_76) rfl (XS.isub X0.here hx rfl (hb hby d4_77) rfl k)))))) ?_
            obtain ⟨fs, hr, hrun, hended, hW, hsame⟩ := X0.leave (v := (some (.int ((11 : Int32) - (((((((((p0).toUInt32 >>> ((16 : Int32) &&& 31).toUInt32).toInt32)).toUInt32 >>> ((4 : Int32) &&& 31).toUInt32).toInt32)).toUInt32 >>> ((1 : Int32) &&& 31).toUInt32).toInt32))))) (fun h => by rw [hret] at h; cases h)
            refine Wp.done (retI X0 hx hret (hb hby d4_78) hr) hrun hended ⟨_, _, rfl, ?_, ⟨_, rfl⟩, hW, hsame.mono (by decide) (by decide)⟩
            show QP _ h0 n0 _ s₁.heap _
            exact ⟨(by rw [f_inz, if_pos c1_1, if_neg c22_2, if_pos c37_10, if_neg c51_11, if_pos c63_13]), N0, e0⟩
          · refine Wp.back (U' := (s₁.setTop (mkF m 78 #[.val (.int (((((((((p0).toUInt32 >>> ((16 : Int32) &&& 31).toUInt32).toInt32)).toUInt32 >>> ((4 : Int32) &&& 31).toUInt32).toInt32)).toUInt32 >>> ((2 : Int32) &&& 31).toUInt32).toInt32)), .val (.int (9 : Int32))] [(.int ((9 : Int32) - ((((((((((((p0).toUInt32 >>> ((16 : Int32) &&& 31).toUInt32).toInt32)).toUInt32 >>> ((4 : Int32) &&& 31).toUInt32).toInt32)).toUInt32 >>> ((2 : Int32) &&& 31).toUInt32).toInt32)).toUInt32 >>> ((1 : Int32) &&& 31).toUInt32).toInt32)))]))) (fun t k => XS.icmpNo X0.here hx rfl (hb hby d4_63) rfl (flt c63_13).1 (XT.iincV X0.here hx rfl (-2 : Int32) (hb hby d4_66) (by decide) rfl (l' := #[.val (.int ((((((p0).toUInt32 >>> ((16 : Int32) &&& 31).toUInt32).toInt32)).toUInt32 >>> ((4 : Int32) &&& 31).toUInt32).toInt32)), .val (.int (9 : Int32))]) rfl (XS.iloadN X0.here hx rfl (hb hby d4_69) rfl (XT.iconstV X0.here hx rfl (2 : Int32) (hb hby d4_70) (by decide) (XS.iushr X0.here hx rfl (hb hby d4_71) rfl (XS.istoreN X0.here hx rfl (hb hby d4_72) rfl (l' := #[.val (.int (((((((((p0).toUInt32 >>> ((16 : Int32) &&& 31).toUInt32).toInt32)).toUInt32 >>> ((4 : Int32) &&& 31).toUInt32).toInt32)).toUInt32 >>> ((2 : Int32) &&& 31).toUInt32).toInt32)), .val (.int (9 : Int32))]) rfl (XS.iloadN X0.here hx rfl (hb hby d4_73) rfl (XS.iloadN X0.here hx rfl (hb hby d4_74) rfl (XT.iconstV X0.here hx rfl (1 : Int32) (hb hby d4_75) (by decide) (XS.iushr X0.here hx rfl (hb hby d4_76) rfl (XS.isub X0.here hx rfl (hb hby d4_77) rfl k))))))))))) ?_
            obtain ⟨fs, hr, hrun, hended, hW, hsame⟩ := X0.leave (v := (some (.int ((9 : Int32) - ((((((((((((p0).toUInt32 >>> ((16 : Int32) &&& 31).toUInt32).toInt32)).toUInt32 >>> ((4 : Int32) &&& 31).toUInt32).toInt32)).toUInt32 >>> ((2 : Int32) &&& 31).toUInt32).toInt32)).toUInt32 >>> ((1 : Int32) &&& 31).toUInt32).toInt32))))) (fun h => by rw [hret] at h; cases h)
            refine Wp.done (retI X0 hx hret (hb hby d4_78) hr) hrun hended ⟨_, _, rfl, ?_, ⟨_, rfl⟩, hW, hsame.mono (by decide) (by decide)⟩
            show QP _ h0 n0 _ s₁.heap _
            exact ⟨(by rw [f_inz, if_pos c1_1, if_neg c22_2, if_pos c37_10, if_neg c51_11, if_neg c63_13]), N0, e0⟩
      · refine Wp.back (U' := (s₁.setTop (mkF m 51 #[.val (.int ((((((p0).toUInt32 >>> ((16 : Int32) &&& 31).toUInt32).toInt32)).toUInt32 >>> ((8 : Int32) &&& 31).toUInt32).toInt32)), .val (.int (7 : Int32))] [(.int (16 : Int32)), (.int ((((((p0).toUInt32 >>> ((16 : Int32) &&& 31).toUInt32).toInt32)).toUInt32 >>> ((8 : Int32) &&& 31).toUInt32).toInt32))]))) (fun t k => XS.icmpNo X0.here hx rfl (hb hby d4_37) rfl (flt c37_10).1 (XT.iincV X0.here hx rfl (-8 : Int32) (hb hby d4_40) (by decide) rfl (l' := #[.val (.int (((p0).toUInt32 >>> ((16 : Int32) &&& 31).toUInt32).toInt32)), .val (.int (7 : Int32))]) rfl (XS.iloadN X0.here hx rfl (hb hby d4_43) rfl (XT.bipushV X0.here hx rfl (8 : Int32) (hb hby d4_44) (by decide) (XS.iushr X0.here hx rfl (hb hby d4_46) rfl (XS.istoreN X0.here hx rfl (hb hby d4_47) rfl (l' := #[.val (.int ((((((p0).toUInt32 >>> ((16 : Int32) &&& 31).toUInt32).toInt32)).toUInt32 >>> ((8 : Int32) &&& 31).toUInt32).toInt32)), .val (.int (7 : Int32))]) rfl (XS.iloadN X0.here hx rfl (hb hby d4_48) rfl (XT.bipushV X0.here hx rfl (16 : Int32) (hb hby d4_49) (by decide) k)))))))) ?_
        by_cases c51_14 : ((((((p0).toUInt32 >>> ((16 : Int32) &&& 31).toUInt32).toInt32)).toUInt32 >>> ((8 : Int32) &&& 31).toUInt32).toInt32) < (16 : Int32)
        · refine Wp.back (U' := (s₁.setTop (mkF m 63 #[.val (.int ((((((p0).toUInt32 >>> ((16 : Int32) &&& 31).toUInt32).toInt32)).toUInt32 >>> ((8 : Int32) &&& 31).toUInt32).toInt32)), .val (.int (7 : Int32))] [(.int (4 : Int32)), (.int ((((((p0).toUInt32 >>> ((16 : Int32) &&& 31).toUInt32).toInt32)).toUInt32 >>> ((8 : Int32) &&& 31).toUInt32).toInt32))]))) (fun t k => XS.icmpYes X0.here hx rfl (pc0 := 51) (pc' := 61) rfl (hb hby d4_51) rfl (tlt c51_14).1 (by decide) (by decide) (XS.iloadN X0.here hx rfl (hb hby d4_61) rfl (XT.iconstV X0.here hx rfl (4 : Int32) (hb hby d4_62) (by decide) k))) ?_
          by_cases c63_15 : ((((((p0).toUInt32 >>> ((16 : Int32) &&& 31).toUInt32).toInt32)).toUInt32 >>> ((8 : Int32) &&& 31).toUInt32).toInt32) < (4 : Int32)
          · refine Wp.back (U' := (s₁.setTop (mkF m 78 #[.val (.int ((((((p0).toUInt32 >>> ((16 : Int32) &&& 31).toUInt32).toInt32)).toUInt32 >>> ((8 : Int32) &&& 31).toUInt32).toInt32)), .val (.int (7 : Int32))] [(.int ((7 : Int32) - (((((((((p0).toUInt32 >>> ((16 : Int32) &&& 31).toUInt32).toInt32)).toUInt32 >>> ((8 : Int32) &&& 31).toUInt32).toInt32)).toUInt32 >>> ((1 : Int32) &&& 31).toUInt32).toInt32)))]))) (fun t k => XS.icmpYes X0.here hx rfl (pc0 := 63) (pc' := 73) rfl (hb hby d4_63) rfl (tlt c63_15).1 (by decide) (by decide) (XS.iloadN X0.here hx rfl (hb hby d4_73) rfl (XS.iloadN X0.here hx rfl (hb hby d4_74) rfl (XT.iconstV X0.here hx rfl (1 : Int32) (hb hby d4_75) (by decide) (XS.iushr X0.here hx rfl (hb hby d4_76) rfl (XS.isub X0.here hx rfl (hb hby d4_77) rfl k)))))) ?_
            obtain ⟨fs, hr, hrun, hended, hW, hsame⟩ := X0.leave (v := (some (.int ((7 : Int32) - (((((((((p0).toUInt32 >>> ((16 : Int32) &&& 31).toUInt32).toInt32)).toUInt32 >>> ((8 : Int32) &&& 31).toUInt32).toInt32)).toUInt32 >>> ((1 : Int32) &&& 31).toUInt32).toInt32))))) (fun h => by rw [hret] at h; cases h)
            refine Wp.done (retI X0 hx hret (hb hby d4_78) hr) hrun hended ⟨_, _, rfl, ?_, ⟨_, rfl⟩, hW, hsame.mono (by decide) (by decide)⟩
            show QP _ h0 n0 _ s₁.heap _
            exact ⟨(by rw [f_inz, if_pos c1_1, if_neg c22_2, if_neg c37_10, if_pos c51_14, if_pos c63_15]), N0, e0⟩
          · refine Wp.back (U' := (s₁.setTop (mkF m 78 #[.val (.int (((((((((p0).toUInt32 >>> ((16 : Int32) &&& 31).toUInt32).toInt32)).toUInt32 >>> ((8 : Int32) &&& 31).toUInt32).toInt32)).toUInt32 >>> ((2 : Int32) &&& 31).toUInt32).toInt32)), .val (.int (5 : Int32))] [(.int ((5 : Int32) - ((((((((((((p0).toUInt32 >>> ((16 : Int32) &&& 31).toUInt32).toInt32)).toUInt32 >>> ((8 : Int32) &&& 31).toUInt32).toInt32)).toUInt32 >>> ((2 : Int32) &&& 31).toUInt32).toInt32)).toUInt32 >>> ((1 : Int32) &&& 31).toUInt32).toInt32)))]))) (fun t k => XS.icmpNo X0.here hx rfl (hb hby d4_63) rfl (flt c63_15).1 (XT.iincV X0.here hx rfl (-2 : Int32) (hb hby d4_66) (by decide) rfl (l' := #[.val (.int ((((((p0).toUInt32 >>> ((16 : Int32) &&& 31).toUInt32).toInt32)).toUInt32 >>> ((8 : Int32) &&& 31).toUInt32).toInt32)), .val (.int (5 : Int32))]) rfl (XS.iloadN X0.here hx rfl (hb hby d4_69) rfl (XT.iconstV X0.here hx rfl (2 : Int32) (hb hby d4_70) (by decide) (XS.iushr X0.here hx rfl (hb hby d4_71) rfl (XS.istoreN X0.here hx rfl (hb hby d4_72) rfl (l' := #[.val (.int (((((((((p0).toUInt32 >>> ((16 : Int32) &&& 31).toUInt32).toInt32)).toUInt32 >>> ((8 : Int32) &&& 31).toUInt32).toInt32)).toUInt32 >>> ((2 : Int32) &&& 31).toUInt32).toInt32)), .val (.int (5 : Int32))]) rfl (XS.iloadN X0.here hx rfl (hb hby d4_73) rfl (XS.iloadN X0.here hx rfl (hb hby d4_74) rfl (XT.iconstV X0.here hx rfl (1 : Int32) (hb hby d4_75) (by decide) (XS.iushr X0.here hx rfl (hb hby d4_76) rfl (XS.isub X0.here hx rfl (hb hby d4_77) rfl k))))))))))) ?_
            obtain ⟨fs, hr, hrun, hended, hW, hsame⟩ := X0.leave (v := (some (.int ((5 : Int32) - ((((((((((((p0).toUInt32 >>> ((16 : Int32) &&& 31).toUInt32).toInt32)).toUInt32 >>> ((8 : Int32) &&& 31).toUInt32).toInt32)).toUInt32 >>> ((2 : Int32) &&& 31).toUInt32).toInt32)).toUInt32 >>> ((1 : Int32) &&& 31).toUInt32).toInt32))))) (fun h => by rw [hret] at h; cases h)
            refine Wp.done (retI X0 hx hret (hb hby d4_78) hr) hrun hended ⟨_, _, rfl, ?_, ⟨_, rfl⟩, hW, hsame.mono (by decide) (by decide)⟩
            show QP _ h0 n0 _ s₁.heap _
            exact ⟨(by rw [f_inz, if_pos c1_1, if_neg c22_2, if_neg c37_10, if_pos c51_14, if_neg c63_15]), N0, e0⟩
        · refine Wp.back (U' := (s₁.setTop (mkF m 63 #[.val (.int (((((((((p0).toUInt32 >>> ((16 : Int32) &&& 31).toUInt32).toInt32)).toUInt32 >>> ((8 : Int32) &&& 31).toUInt32).toInt32)).toUInt32 >>> ((4 : Int32) &&& 31).toUInt32).toInt32)), .val (.int (3 : Int32))] [(.int (4 : Int32)), (.int (((((((((p0).toUInt32 >>> ((16 : Int32) &&& 31).toUInt32).toInt32)).toUInt32 >>> ((8 : Int32) &&& 31).toUInt32).toInt32)).toUInt32 >>> ((4 : Int32) &&& 31).toUInt32).toInt32))]))) (fun t k => XS.icmpNo X0.here hx rfl (hb hby d4_51) rfl (flt c51_14).1 (XT.iincV X0.here hx rfl (-4 : Int32) (hb hby d4_54) (by decide) rfl (l' := #[.val (.int ((((((p0).toUInt32 >>> ((16 : Int32) &&& 31).toUInt32).toInt32)).toUInt32 >>> ((8 : Int32) &&& 31).toUInt32).toInt32)), .val (.int (3 : Int32))]) rfl (XS.iloadN X0.here hx rfl (hb hby d4_57) rfl (XT.iconstV X0.here hx rfl (4 : Int32) (hb hby d4_58) (by decide) (XS.iushr X0.here hx rfl (hb hby d4_59) rfl (XS.istoreN X0.here hx rfl (hb hby d4_60) rfl (l' := #[.val (.int (((((((((p0).toUInt32 >>> ((16 : Int32) &&& 31).toUInt32).toInt32)).toUInt32 >>> ((8 : Int32) &&& 31).toUInt32).toInt32)).toUInt32 >>> ((4 : Int32) &&& 31).toUInt32).toInt32)), .val (.int (3 : Int32))]) rfl (XS.iloadN X0.here hx rfl (hb hby d4_61) rfl (XT.iconstV X0.here hx rfl (4 : Int32) (hb hby d4_62) (by decide) k)))))))) ?_
          by_cases c63_16 : (((((((((p0).toUInt32 >>> ((16 : Int32) &&& 31).toUInt32).toInt32)).toUInt32 >>> ((8 : Int32) &&& 31).toUInt32).toInt32)).toUInt32 >>> ((4 : Int32) &&& 31).toUInt32).toInt32) < (4 : Int32)
          · refine Wp.back (U' := (s₁.setTop (mkF m 78 #[.val (.int (((((((((p0).toUInt32 >>> ((16 : Int32) &&& 31).toUInt32).toInt32)).toUInt32 >>> ((8 : Int32) &&& 31).toUInt32).toInt32)).toUInt32 >>> ((4 : Int32) &&& 31).toUInt32).toInt32)), .val (.int (3 : Int32))] [(.int ((3 : Int32) - ((((((((((((p0).toUInt32 >>> ((16 : Int32) &&& 31).toUInt32).toInt32)).toUInt32 >>> ((8 : Int32) &&& 31).toUInt32).toInt32)).toUInt32 >>> ((4 : Int32) &&& 31).toUInt32).toInt32)).toUInt32 >>> ((1 : Int32) &&& 31).toUInt32).toInt32)))]))) (fun t k => XS.icmpYes X0.here hx rfl (pc0 := 63) (pc' := 73) rfl (hb hby d4_63) rfl (tlt c63_16).1 (by decide) (by decide) (XS.iloadN X0.here hx rfl (hb hby d4_73) rfl (XS.iloadN X0.here hx rfl (hb hby d4_74) rfl (XT.iconstV X0.here hx rfl (1 : Int32) (hb hby d4_75) (by decide) (XS.iushr X0.here hx rfl (hb hby d4_76) rfl (XS.isub X0.here hx rfl (hb hby d4_77) rfl k)))))) ?_
            obtain ⟨fs, hr, hrun, hended, hW, hsame⟩ := X0.leave (v := (some (.int ((3 : Int32) - ((((((((((((p0).toUInt32 >>> ((16 : Int32) &&& 31).toUInt32).toInt32)).toUInt32 >>> ((8 : Int32) &&& 31).toUInt32).toInt32)).toUInt32 >>> ((4 : Int32) &&& 31).toUInt32).toInt32)).toUInt32 >>> ((1 : Int32) &&& 31).toUInt32).toInt32))))) (fun h => by rw [hret] at h; cases h)
            refine Wp.done (retI X0 hx hret (hb hby d4_78) hr) hrun hended ⟨_, _, rfl, ?_, ⟨_, rfl⟩, hW, hsame.mono (by decide) (by decide)⟩
            show QP _ h0 n0 _ s₁.heap _
            exact ⟨(by rw [f_inz, if_pos c1_1, if_neg c22_2, if_neg c37_10, if_neg c51_14, if_pos c63_16]), N0, e0⟩
          · refine Wp.back (U' := (s₁.setTop (mkF m 78 #[.val (.int ((((((((((((p0).toUInt32 >>> ((16 : Int32) &&& 31).toUInt32).toInt32)).toUInt32 >>> ((8 : Int32) &&& 31).toUInt32).toInt32)).toUInt32 >>> ((4 : Int32) &&& 31).toUInt32).toInt32)).toUInt32 >>> ((2 : Int32) &&& 31).toUInt32).toInt32)), .val (.int (1 : Int32))] [(.int ((1 : Int32) - (((((((((((((((p0).toUInt32 >>> ((16 : Int32) &&& 31).toUInt32).toInt32)).toUInt32 >>> ((8 : Int32) &&& 31).toUInt32).toInt32)).toUInt32 >>> ((4 : Int32) &&& 31).toUInt32).toInt32)).toUInt32 >>> ((2 : Int32) &&& 31).toUInt32).toInt32)).toUInt32 >>> ((1 : Int32) &&& 31).toUInt32).toInt32)))]))) (fun t k => XS.icmpNo X0.here hx rfl (hb hby d4_63) rfl (flt c63_16).1 (XT.iincV X0.here hx rfl (-2 : Int32) (hb hby d4_66) (by decide) rfl (l' := #[.val (.int (((((((((p0).toUInt32 >>> ((16 : Int32) &&& 31).toUInt32).toInt32)).toUInt32 >>> ((8 : Int32) &&& 31).toUInt32).toInt32)).toUInt32 >>> ((4 : Int32) &&& 31).toUInt32).toInt32)), .val (.int (1 : Int32))]) rfl (XS.iloadN X0.here hx rfl (hb hby d4_69) rfl (XT.iconstV X0.here hx rfl (2 : Int32) (hb hby d4_70) (by decide) (XS.iushr X0.here hx rfl (hb hby d4_71) rfl (XS.istoreN X0.here hx rfl (hb hby d4_72) rfl (l' := #[.val (.int ((((((((((((p0).toUInt32 >>> ((16 : Int32) &&& 31).toUInt32).toInt32)).toUInt32 >>> ((8 : Int32) &&& 31).toUInt32).toInt32)).toUInt32 >>> ((4 : Int32) &&& 31).toUInt32).toInt32)).toUInt32 >>> ((2 : Int32) &&& 31).toUInt32).toInt32)), .val (.int (1 : Int32))]) rfl (XS.iloadN X0.here hx rfl (hb hby d4_73) rfl (XS.iloadN X0.here hx rfl (hb hby d4_74) rfl (XT.iconstV X0.here hx rfl (1 : Int32) (hb hby d4_75) (by decide) (XS.iushr X0.here hx rfl (hb hby d4_76) rfl (XS.isub X0.here hx rfl (hb hby d4_77) rfl k))))))))))) ?_
            obtain ⟨fs, hr, hrun, hended, hW, hsame⟩ := X0.leave (v := (some (.int ((1 : Int32) - (((((((((((((((p0).toUInt32 >>> ((16 : Int32) &&& 31).toUInt32).toInt32)).toUInt32 >>> ((8 : Int32) &&& 31).toUInt32).toInt32)).toUInt32 >>> ((4 : Int32) &&& 31).toUInt32).toInt32)).toUInt32 >>> ((2 : Int32) &&& 31).toUInt32).toInt32)).toUInt32 >>> ((1 : Int32) &&& 31).toUInt32).toInt32))))) (fun h => by rw [hret] at h; cases h)
            refine Wp.done (retI X0 hx hret (hb hby d4_78) hr) hrun hended ⟨_, _, rfl, ?_, ⟨_, rfl⟩, hW, hsame.mono (by decide) (by decide)⟩
            show QP _ h0 n0 _ s₁.heap _
            exact ⟨(by rw [f_inz, if_pos c1_1, if_neg c22_2, if_neg c37_10, if_neg c51_14, if_neg c63_16]), N0, e0⟩
  · refine Wp.back (U' := (s₁.setTop (mkF m 5 #[.val (.int p0), .unset] [(.int p0)]))) (fun t k => XS.ifNo X0.here hx rfl (hb hby d4_1) rfl ((if0 _ _).trans (flt c1_1).2.2.1) (XS.iloadN X0.here hx rfl (hb hby d4_4) rfl k)) ?_
    by_cases c5_17 : p0 = (0 : Int32)
    · refine Wp.back (U' := (s₁.setTop (mkF m 14 #[.val (.int p0), .unset] [(.int (32 : Int32))]))) (fun t k => XS.ifNo X0.here hx rfl (hb hby d4_5) rfl ((if0 _ _).trans (teq c5_17).2) (XT.bipushV X0.here hx rfl (32 : Int32) (hb hby d4_8) (by decide) (XS.goto X0.here hx rfl (pc0 := 10) (pc' := 14) rfl (hb hby d4_10) (by decide) (by decide) k))) ?_
      obtain ⟨fs, hr, hrun, hended, hW, hsame⟩ := X0.leave (v := (some (.int (32 : Int32)))) (fun h => by rw [hret] at h; cases h)
      refine Wp.done (retI X0 hx hret (hb hby d4_14) hr) hrun hended ⟨_, _, rfl, ?_, ⟨_, rfl⟩, hW, hsame.mono (by decide) (by decide)⟩
      show QP _ h0 n0 _ s₁.heap _
      exact ⟨(by rw [f_inz, if_neg c1_1, if_pos c5_17]), N0, e0⟩
    · refine Wp.back (U' := (s₁.setTop (mkF m 14 #[.val (.int p0), .unset] [(.int (0 : Int32))]))) (fun t k => XS.ifYes X0.here hx rfl (pc0 := 5) (pc' := 13) rfl (hb hby d4_5) rfl ((if0 _ _).trans (feq c5_17).2) (by decide) (by decide) (XT.iconstV X0.here hx rfl (0 : Int32) (hb hby d4_13) (by decide) k)) ?_
      obtain ⟨fs, hr, hrun, hended, hW, hsame⟩ := X0.leave (v := (some (.int (0 : Int32)))) (fun h => by rw [hret] at h; cases h)
      refine Wp.done (retI X0 hx hret (hb hby d4_14) hr) hrun hended ⟨_, _, rfl, ?_, ⟨_, rfl⟩, hW, hsame.mono (by decide) (by decide)⟩
      show QP _ h0 n0 _ s₁.heap _
      exact ⟨(by rw [f_inz, if_neg c1_1, if_neg c5_17]), N0, e0⟩
def f_lnz (q0 : Int64) : Int32 := (if ((((q0).toUInt64 >>> ((32 : Int32) &&& 0x3f).toInt64.toUInt64).toInt64)).toInt32 = (0 : Int32) then ((32 : Int32) + (f_inz (q0).toInt32)) else (f_inz ((((q0).toUInt64 >>> ((32 : Int32) &&& 0x3f).toInt64.toUInt64).toInt64)).toInt32))
theorem d3_0 : decode jdk_35_method_48_code 0 = .ok (.lload_n 0, 1) := by decide +kernel
theorem d3_1 : decode jdk_35_method_48_code 1 = .ok (.bipush 32, 2) := by decide +kernel
theorem d3_3 : decode jdk_35_method_48_code 3 = .ok (.lushr, 1) := by decide +kernel
theorem d3_4 : decode jdk_35_method_48_code 4 = .ok (.l2i, 1) := by decide +kernel
theorem d3_5 : decode jdk_35_method_48_code 5 = .ok (.istore_n 2, 1) := by decide +kernel
theorem d3_6 : decode jdk_35_method_48_code 6 = .ok (.iload_n 2, 1) := by decide +kernel
theorem d3_7 : decode jdk_35_method_48_code 7 = .ok (.ifCond .ne 14, 3) := by decide +kernel
theorem d3_10 : decode jdk_35_method_48_code 10 = .ok (.bipush 32, 2) := by decide +kernel
theorem d3_12 : decode jdk_35_method_48_code 12 = .ok (.lload_n 0, 1) := by decide +kernel
theorem d3_13 : decode jdk_35_method_48_code 13 = .ok (.l2i, 1) := by decide +kernel
theorem d3_14 : decode jdk_35_method_48_code 14 = .ok (.invokestatic 308, 3) := by decide +kernel
theorem d3_17 : decode jdk_35_method_48_code 17 = .ok (.iadd, 1) := by decide +kernel
theorem d3_18 : decode jdk_35_method_48_code 18 = .ok (.goto 7, 3) := by decide +kernel
theorem d3_21 : decode jdk_35_method_48_code 21 = .ok (.iload_n 2, 1) := by decide +kernel
theorem d3_22 : decode jdk_35_method_48_code 22 = .ok (.invokestatic 308, 3) := by decide +kernel
theorem d3_25 : decode jdk_35_method_48_code 25 = .ok (.ireturn, 1) := by decide +kernel
theorem pd3_0 : parseMethodDescriptor "(I)I" = some ⟨[.int], some .int⟩ := by decide +kernel
theorem pn3 : plainName "java/lang/Long" = true := by first | (simp [plainName, overriddenIn]; done) | decide +kernel
theorem ef3 (m : MethodId) (x0 : Int64) : entryFrame m #[(.long x0)] 3 = mkF m 0 #[.val (.long x0), .second, .unset] [] := by first | (simp [entryFrame, mkF, argsToLocals, Value.category]; done) | rfl
set_option maxRecDepth 65536 in
set_option maxHeartbeats 40000000 in
theorem rm_f_lnz (l : Launch) (Z : State) (a0 : Array Value) (hw : ∀ d ∈ tables_1, d.before a0 Z = true) (ws : List Jvm.Cond) (q0 : Int64) (h0 : Heap) (n0 : Nat) (Z0 : n0 ≤ h0.size)  :
    MetFree l (⟨"java/lang/Long", "numberOfLeadingZeros", "(J)I"⟩ : MethodName) (head1 (Jvm.Cond.code (⟨"java/lang/Long", "numberOfLeadingZeros", "(J)I"⟩ : MethodName) jdk_35_method_48_code 3 (some .int) :: ws) ({ frames := 1, cells := 0, slots := 0, locals := 14 } : Room)) (fun a U => a = #[(.long q0)] ∧ Z.Warmed39 U.vm ∧ U.heap = h0) (fun _ _ _ _ _ => True) (fun _ U o U' => ∃ v L, o = .returned v ∧ QP (some (.int (f_lnz q0))) h0 n0 v U'.heap L ∧ FrameEnd U o U' L ({ frames := 1, cells := 0, slots := 0, locals := 14 } : Room).cells ({ frames := 1, cells := 0, slots := 0, locals := 14 } : Room).slots) := by
  refine MetFree.of_bodySF (plainFor_of_name pn3) hisR ?_
  intro p e s m args below meth c s₁ Bd hml0 hP hK
  obtain ⟨rfl, hZ, hh⟩ := hP
  have hx := Bd.exec
  have hby := Bd.bytes
  have hret := Bd.returns
  have hlk := Bd.notSynchronized
  have hml : c.maxLocals = 3 := hml0
  have hown : s.vm.findClass "java/lang/Long" = some m.cls := findClass_of_methodNamed Bd.named
  have hnm := (name_of_methodNamed Bd.named Bd.method).1
  have X0 : Stand p l e ({ frames := 1, cells := 0, slots := 0, locals := 14 } : Room) s m #[(.long q0)] below meth c s₁ [] 0 0 := Stand.of_body Bd
  have e0 : s₁.heap = h0 := by rw [← hh, Bd.state]; rfl
  have N0 := Fr.nil n0
  show Wp p e below (fun o s₂ => ∃ v L, o = .returned v ∧ QP (some (.int (f_lnz q0))) h0 n0 v s₂.heap L ∧ FrameEnd s o s₂ L ({ frames := 1, cells := 0, slots := 0, locals := 14 } : Room).cells ({ frames := 1, cells := 0, slots := 0, locals := 14 } : Room).slots) _
  refine Wp.back (U' := (s₁.setTop (mkF m 0 #[.val (.long q0), .second, .unset] []))) (fun t k => castTop (ef3 m q0) k) ?_
  refine Wp.back (U' := (s₁.setTop (mkF m 7 #[.val (.long q0), .second, .val (.int ((((q0).toUInt64 >>> ((32 : Int32) &&& 0x3f).toInt64.toUInt64).toInt64)).toInt32)] [(.int ((((q0).toUInt64 >>> ((32 : Int32) &&& 0x3f).toInt64.toUInt64).toInt64)).toInt32)]))) (fun t k => XS.lloadN X0.here hx rfl (hb hby d3_0) rfl (XT.bipushV X0.here hx rfl (32 : Int32) (hb hby d3_1) (by decide) (XS.lushr X0.here hx rfl (hb hby d3_3) rfl (XS.l2i X0.here hx rfl (hb hby d3_4) rfl (XS.istoreN X0.here hx rfl (hb hby d3_5) rfl (l' := #[.val (.long q0), .second, .val (.int ((((q0).toUInt64 >>> ((32 : Int32) &&& 0x3f).toInt64.toUInt64).toInt64)).toInt32)]) rfl (XS.iloadN X0.here hx rfl (hb hby d3_6) rfl k)))))) ?_
  by_cases c7_1 : ((((q0).toUInt64 >>> ((32 : Int32) &&& 0x3f).toInt64.toUInt64).toInt64)).toInt32 = (0 : Int32)
  · refine Wp.back (U' := (s₁.setTop (mkF m 14 #[.val (.long q0), .second, .val (.int ((((q0).toUInt64 >>> ((32 : Int32) &&& 0x3f).toInt64.toUInt64).toInt64)).toInt32)] [(.int (q0).toInt32), (.int (32 : Int32))]))) (fun t k => XS.ifNo X0.here hx rfl (hb hby d3_7) rfl ((if0 _ _).trans (teq c7_1).2) (XT.bipushV X0.here hx rfl (32 : Int32) (hb hby d3_10) (by decide) (XS.lloadN X0.here hx rfl (hb hby d3_12) rfl (XS.l2i X0.here hx rfl (hb hby d3_13) rfl k)))) ?_
    obtain ⟨_, _, ⟨T2, L2, k2, n2⟩, -, X2, ⟨Lc2, hQ2, l2, y2, z2⟩, st2⟩ := Jvm.LawKit.callS X0 hx (y := (⟨"java/lang/Integer", "numberOfLeadingZeros", "(I)I"⟩ : MethodName)) hown (mvT hZ (hw _ (List.mem_of_getElem? (i := 23) rfl))) (mvT hZ (hw _ (List.mem_of_getElem? (i := 24) rfl))) (mvT hZ (hw _ (List.mem_of_getElem? (i := 25) rfl))) (mvT hZ (hw _ (List.mem_of_getElem? (i := 26) rfl))) (by decide) (backOf (W := 1) (rm_f_inz l Z a0 hw [] (q0).toInt32 h0 n0 Z0 ) hZ (hw _ (List.mem_of_getElem? (i := 26) rfl)) (hw _ (List.mem_of_getElem? (i := 25) rfl)) (by decide) (by decide)) (g := (mkF m 14 #[.val (.long q0), .second, .val (.int ((((q0).toUInt64 >>> ((32 : Int32) &&& 0x3f).toInt64.toUInt64).toInt64)).toInt32)] [(.int (q0).toInt32), (.int (32 : Int32))])) rfl (by rw [hml]; rfl) (argsL := [(.int (q0).toInt32)]) (rest := [(.int (32 : Int32))]) (lenOf pd3_0 rfl) rfl (by show 2 * 0 + _ ≤ _; exact Nat.le_of_eq rfl) (hb hby d3_14) (fun _ _ => ⟨rfl, e0, (by decide : 0 + 0 ≤ _), (by decide : 0 + 0 ≤ _)⟩)
    dsimp only [Pt.U, Pt.locs, Pt.cells, Pt.slots] at X2 l2 y2 z2 st2 hQ2
    subst l2 y2 z2
    obtain ⟨rfl, N2q, e2⟩ := hQ2
    have N2 := Fr.app N0 N2q
    refine Wp.back (U' := (T2.setTop (mkF m 17 #[.val (.long q0), .second, .val (.int ((((q0).toUInt64 >>> ((32 : Int32) &&& 0x3f).toInt64.toUInt64).toInt64)).toInt32)] [(.int (f_inz (q0).toInt32)), (.int (32 : Int32))]))) st2 ?_
    refine Wp.back (U' := (T2.setTop (mkF m 25 #[.val (.long q0), .second, .val (.int ((((q0).toUInt64 >>> ((32 : Int32) &&& 0x3f).toInt64.toUInt64).toInt64)).toInt32)] [(.int ((32 : Int32) + (f_inz (q0).toInt32)))]))) (fun t k => XS.iadd X2.here hx rfl (hb hby d3_17) rfl (XS.goto X2.here hx rfl (pc0 := 18) (pc' := 25) rfl (hb hby d3_18) (by decide) (by decide) k)) ?_
    obtain ⟨fs, hr, hrun, hended, hW, hsame⟩ := X2.leave (v := (some (.int ((32 : Int32) + (f_inz (q0).toInt32))))) (fun h => by rw [hret] at h; cases h)
    refine Wp.done (retI X2 hx hret (hb hby d3_25) hr) hrun hended ⟨_, _, rfl, ?_, ⟨_, rfl⟩, hW, hsame.mono (by decide) (by decide)⟩
    show QP _ h0 n0 _ T2.heap _
    exact ⟨(by rw [f_lnz, if_pos c7_1]), N2, e2⟩
  · refine Wp.back (U' := (s₁.setTop (mkF m 22 #[.val (.long q0), .second, .val (.int ((((q0).toUInt64 >>> ((32 : Int32) &&& 0x3f).toInt64.toUInt64).toInt64)).toInt32)] [(.int ((((q0).toUInt64 >>> ((32 : Int32) &&& 0x3f).toInt64.toUInt64).toInt64)).toInt32)]))) (fun t k => XS.ifYes X0.here hx rfl (pc0 := 7) (pc' := 21) rfl (hb hby d3_7) rfl ((if0 _ _).trans (feq c7_1).2) (by decide) (by decide) (XS.iloadN X0.here hx rfl (hb hby d3_21) rfl k)) ?_
    obtain ⟨_, _, ⟨T3, L3, k3, n3⟩, -, X3, ⟨Lc3, hQ3, l3, y3, z3⟩, st3⟩ := Jvm.LawKit.callS X0 hx (y := (⟨"java/lang/Integer", "numberOfLeadingZeros", "(I)I"⟩ : MethodName)) hown (mvT hZ (hw _ (List.mem_of_getElem? (i := 23) rfl))) (mvT hZ (hw _ (List.mem_of_getElem? (i := 24) rfl))) (mvT hZ (hw _ (List.mem_of_getElem? (i := 25) rfl))) (mvT hZ (hw _ (List.mem_of_getElem? (i := 26) rfl))) (by decide) (backOf (W := 0) (rm_f_inz l Z a0 hw [] ((((q0).toUInt64 >>> ((32 : Int32) &&& 0x3f).toInt64.toUInt64).toInt64)).toInt32 h0 n0 Z0 ) hZ (hw _ (List.mem_of_getElem? (i := 26) rfl)) (hw _ (List.mem_of_getElem? (i := 25) rfl)) (by decide) (by decide)) (g := (mkF m 22 #[.val (.long q0), .second, .val (.int ((((q0).toUInt64 >>> ((32 : Int32) &&& 0x3f).toInt64.toUInt64).toInt64)).toInt32)] [(.int ((((q0).toUInt64 >>> ((32 : Int32) &&& 0x3f).toInt64.toUInt64).toInt64)).toInt32)])) rfl (by rw [hml]; rfl) (argsL := [(.int ((((q0).toUInt64 >>> ((32 : Int32) &&& 0x3f).toInt64.toUInt64).toInt64)).toInt32)]) (rest := []) (lenOf pd3_0 rfl) rfl (by show 2 * 0 + _ ≤ _; exact Nat.le_of_eq rfl) (hb hby d3_22) (fun _ _ => ⟨rfl, e0, (by decide : 0 + 0 ≤ _), (by decide : 0 + 0 ≤ _)⟩)
    dsimp only [Pt.U, Pt.locs, Pt.cells, Pt.slots] at X3 l3 y3 z3 st3 hQ3
    subst l3 y3 z3
    obtain ⟨rfl, N3q, e3⟩ := hQ3
    have N3 := Fr.app N0 N3q
    refine Wp.back (U' := (T3.setTop (mkF m 25 #[.val (.long q0), .second, .val (.int ((((q0).toUInt64 >>> ((32 : Int32) &&& 0x3f).toInt64.toUInt64).toInt64)).toInt32)] [(.int (f_inz ((((q0).toUInt64 >>> ((32 : Int32) &&& 0x3f).toInt64.toUInt64).toInt64)).toInt32))]))) st3 ?_
    obtain ⟨fs, hr, hrun, hended, hW, hsame⟩ := X3.leave (v := (some (.int (f_inz ((((q0).toUInt64 >>> ((32 : Int32) &&& 0x3f).toInt64.toUInt64).toInt64)).toInt32)))) (fun h => by rw [hret] at h; cases h)
    refine Wp.done (retI X3 hx hret (hb hby d3_25) hr) hrun hended ⟨_, _, rfl, ?_, ⟨_, rfl⟩, hW, hsame.mono (by decide) (by decide)⟩
    show QP _ h0 n0 _ T3.heap _
    exact ⟨(by rw [f_lnz, if_neg c7_1]), N3, e3⟩
def Q_ini1 (Z : State) (ar : Addr) (p1 : Int32)  (h0 : Heap) (n0 : Nat) (v : Option Value) (h : Heap) (L : List Loc) : Prop := v = none ∧ Fr n0 L ∧ Keep h0 h [ar] ∧ Exa Z h ar "com/example/known_leaks/knownleaks/CellPacking" ∧ Fld Z h ar "com/example/known_leaks/knownleaks/CellPacking" "cellsPerBlock" "I" (.int (1 : Int32)) ∧ Fld Z h ar "com/example/known_leaks/knownleaks/CellPacking" "blockBits" "I" (.int ((64 : Int32) - (f_lnz (((1 : Int64) * (p1).toInt64) - (1 : Int64)))))
theorem g1d1_0 : decode prog_4_method_1_code 0 = .ok (.aload_n 0, 1) := by decide +kernel
theorem g1d1_1 : decode prog_4_method_1_code 1 = .ok (.invokespecial 1, 3) := by decide +kernel
theorem g1d1_4 : decode prog_4_method_1_code 4 = .ok (.iload_n 1, 1) := by decide +kernel
theorem g1d1_5 : decode prog_4_method_1_code 5 = .ok (.iconst 2, 1) := by decide +kernel
theorem g1d1_6 : decode prog_4_method_1_code 6 = .ok (.if_icmp .lt 8, 3) := by decide +kernel
theorem g1d1_9 : decode prog_4_method_1_code 9 = .ok (.iload_n 2, 1) := by decide +kernel
theorem g1d1_10 : decode prog_4_method_1_code 10 = .ok (.iconst 1, 1) := by decide +kernel
theorem g1d1_11 : decode prog_4_method_1_code 11 = .ok (.if_icmp .ge 18, 3) := by decide +kernel
theorem g1d1_29 : decode prog_4_method_1_code 29 = .ok (.iload_n 2, 1) := by decide +kernel
theorem g1d1_30 : decode prog_4_method_1_code 30 = .ok (.bipush 57, 2) := by decide +kernel
theorem g1d1_32 : decode prog_4_method_1_code 32 = .ok (.if_icmp .le 9, 3) := by decide +kernel
theorem g1d1_41 : decode prog_4_method_1_code 41 = .ok (.aload_n 0, 1) := by decide +kernel
theorem g1d1_42 : decode prog_4_method_1_code 42 = .ok (.iload_n 2, 1) := by decide +kernel
theorem g1d1_43 : decode prog_4_method_1_code 43 = .ok (.newarray .long, 2) := by decide +kernel
theorem g1d1_45 : decode prog_4_method_1_code 45 = .ok (.putfield 22, 3) := by decide +kernel
theorem g1d1_48 : decode prog_4_method_1_code 48 = .ok (.lconst 1, 1) := by decide +kernel
theorem g1d1_49 : decode prog_4_method_1_code 49 = .ok (.lstore_n 3, 1) := by decide +kernel
theorem g1d1_50 : decode prog_4_method_1_code 50 = .ok (.iconst 0, 1) := by decide +kernel
theorem g1d1_51 : decode prog_4_method_1_code 51 = .ok (.istore 5, 2) := by decide +kernel
theorem g1d1_53 : decode prog_4_method_1_code 53 = .ok (.iload 5, 2) := by decide +kernel
theorem g1d1_55 : decode prog_4_method_1_code 55 = .ok (.iload_n 2, 1) := by decide +kernel
theorem g1d1_56 : decode prog_4_method_1_code 56 = .ok (.if_icmp .ge 39, 3) := by decide +kernel
theorem g1d1_59 : decode prog_4_method_1_code 59 = .ok (.lload_n 3, 1) := by decide +kernel
theorem g1d1_60 : decode prog_4_method_1_code 60 = .ok (.ldc2_w 26, 3) := by decide +kernel
theorem g1d1_63 : decode prog_4_method_1_code 63 = .ok (.iload_n 1, 1) := by decide +kernel
theorem g1d1_64 : decode prog_4_method_1_code 64 = .ok (.i2l, 1) := by decide +kernel
theorem g1d1_65 : decode prog_4_method_1_code 65 = .ok (.ldiv, 1) := by decide +kernel
theorem g1d1_66 : decode prog_4_method_1_code 66 = .ok (.lcmp, 1) := by decide +kernel
theorem g1d1_67 : decode prog_4_method_1_code 67 = .ok (.ifCond .le 9, 3) := by decide +kernel
theorem g1d1_76 : decode prog_4_method_1_code 76 = .ok (.aload_n 0, 1) := by decide +kernel
theorem g1d1_77 : decode prog_4_method_1_code 77 = .ok (.getfield 22, 3) := by decide +kernel
theorem g1d1_80 : decode prog_4_method_1_code 80 = .ok (.iload 5, 2) := by decide +kernel
theorem g1d1_82 : decode prog_4_method_1_code 82 = .ok (.lload_n 3, 1) := by decide +kernel
theorem g1d1_83 : decode prog_4_method_1_code 83 = .ok (.lastore, 1) := by decide +kernel
theorem g1d1_84 : decode prog_4_method_1_code 84 = .ok (.lload_n 3, 1) := by decide +kernel
theorem g1d1_85 : decode prog_4_method_1_code 85 = .ok (.iload_n 1, 1) := by decide +kernel
theorem g1d1_86 : decode prog_4_method_1_code 86 = .ok (.i2l, 1) := by decide +kernel
theorem g1d1_87 : decode prog_4_method_1_code 87 = .ok (.lmul, 1) := by decide +kernel
theorem g1d1_88 : decode prog_4_method_1_code 88 = .ok (.lstore_n 3, 1) := by decide +kernel
theorem g1d1_89 : decode prog_4_method_1_code 89 = .ok (.iinc 5 1, 3) := by decide +kernel
theorem g1d1_92 : decode prog_4_method_1_code 92 = .ok (.goto (-39), 3) := by decide +kernel
theorem g1d1_95 : decode prog_4_method_1_code 95 = .ok (.aload_n 0, 1) := by decide +kernel
theorem g1d1_96 : decode prog_4_method_1_code 96 = .ok (.iload_n 1, 1) := by decide +kernel
theorem g1d1_97 : decode prog_4_method_1_code 97 = .ok (.putfield 28, 3) := by decide +kernel
theorem g1d1_100 : decode prog_4_method_1_code 100 = .ok (.aload_n 0, 1) := by decide +kernel
theorem g1d1_101 : decode prog_4_method_1_code 101 = .ok (.iload_n 2, 1) := by decide +kernel
theorem g1d1_102 : decode prog_4_method_1_code 102 = .ok (.putfield 32, 3) := by decide +kernel
theorem g1d1_105 : decode prog_4_method_1_code 105 = .ok (.aload_n 0, 1) := by decide +kernel
theorem g1d1_106 : decode prog_4_method_1_code 106 = .ok (.bipush 64, 2) := by decide +kernel
theorem g1d1_108 : decode prog_4_method_1_code 108 = .ok (.lload_n 3, 1) := by decide +kernel
theorem g1d1_109 : decode prog_4_method_1_code 109 = .ok (.lconst 1, 1) := by decide +kernel
theorem g1d1_110 : decode prog_4_method_1_code 110 = .ok (.lsub, 1) := by decide +kernel
theorem g1d1_111 : decode prog_4_method_1_code 111 = .ok (.invokestatic 35, 3) := by decide +kernel
theorem g1d1_114 : decode prog_4_method_1_code 114 = .ok (.isub, 1) := by decide +kernel
theorem g1d1_115 : decode prog_4_method_1_code 115 = .ok (.putfield 41, 3) := by decide +kernel
theorem g1d1_118 : decode prog_4_method_1_code 118 = .ok (.return_, 1) := by decide +kernel
theorem g1pd1_0 : parseMethodDescriptor "(J)I" = some ⟨[.long], some .int⟩ := by decide +kernel
theorem g1pn1 : plainName "com/example/known_leaks/knownleaks/CellPacking" = true := by first | (simp [plainName, overriddenIn]; done) | decide +kernel
theorem g1ef1 (m : MethodId) (x0 : Addr) (x1 : Int32) (x2 : Int32) : entryFrame m #[(.ref x0), (.int x1), (.int x2)] 6 = mkF m 0 #[.val (.ref x0), .val (.int x1), .val (.int x2), .unset, .unset, .unset] [] := by first | (simp [entryFrame, mkF, argsToLocals, Value.category]; done) | rfl
set_option maxRecDepth 65536 in
set_option maxHeartbeats 40000000 in
theorem rm_ini1 (l : Launch) (Z : State) (a0 : Array Value) (hw : ∀ d ∈ tables_1, d.before a0 Z = true) (ws : List Jvm.Cond) (ar : Addr) (p1 : Int32)  (h0 : Heap) (n0 : Nat) (Z0 : n0 ≤ h0.size) (H0 : Exa Z h0 ar "com/example/known_leaks/knownleaks/CellPacking") (H1 : Fld Z h0 ar "com/example/known_leaks/knownleaks/CellPacking" "powers" "[J" .null) (H2 : Fld Z h0 ar "com/example/known_leaks/knownleaks/CellPacking" "modulus" "I" (.int (0 : Int32))) (H3 : Fld Z h0 ar "com/example/known_leaks/knownleaks/CellPacking" "cellsPerBlock" "I" (.int (0 : Int32))) (H4 : Fld Z h0 ar "com/example/known_leaks/knownleaks/CellPacking" "blockBits" "I" (.int (0 : Int32))) (g_ar : n0 ≤ ar) (h2 : ¬ p1 < (2 : Int32)) (hnz : (p1).toInt64 ≠ 0) (hp0 : ¬ ((144115188075855872 : Int64) / (p1).toInt64) < (1 : Int64)) :
    MetFree l (⟨"com/example/known_leaks/knownleaks/CellPacking", "<init>", "(II)V"⟩ : MethodName) (head1 (Jvm.Cond.code (⟨"com/example/known_leaks/knownleaks/CellPacking", "<init>", "(II)V"⟩ : MethodName) prog_4_method_1_code 6 none :: ws) ({ frames := 2, cells := 1, slots := 1, locals := 30 } : Room)) (fun a U => a = #[(.ref ar), (.int p1), (.int (1 : Int32))] ∧ Z.Warmed39 U.vm ∧ U.heap = h0) (fun _ _ _ _ _ => True) (fun _ U o U' => ∃ v L, o = .returned v ∧ Q_ini1 Z ar p1 h0 n0 v U'.heap L ∧ FrameEnd U o U' L ({ frames := 2, cells := 1, slots := 1, locals := 30 } : Room).cells ({ frames := 2, cells := 1, slots := 1, locals := 30 } : Room).slots) := by
  refine MetFree.of_bodySF (plainFor_of_name g1pn1) hisR ?_
  intro p e s m args below meth c s₁ Bd hml0 hP hK
  obtain ⟨rfl, hZ, hh⟩ := hP
  have hx := Bd.exec
  have hby := Bd.bytes
  have hret := Bd.returns
  have hlk := Bd.notSynchronized
  have hml : c.maxLocals = 6 := hml0
  have hown : s.vm.findClass "com/example/known_leaks/knownleaks/CellPacking" = some m.cls := findClass_of_methodNamed Bd.named
  have hnm := (name_of_methodNamed Bd.named Bd.method).1
  have X0 : Stand p l e ({ frames := 2, cells := 1, slots := 1, locals := 30 } : Room) s m #[(.ref ar), (.int p1), (.int (1 : Int32))] below meth c s₁ [] 0 0 := Stand.of_body Bd
  have e0 : s₁.heap = h0 := by rw [← hh, Bd.state]; rfl
  have N0 := Fr.nil n0
  show Wp p e below (fun o s₂ => ∃ v L, o = .returned v ∧ Q_ini1 Z ar p1 h0 n0 v s₂.heap L ∧ FrameEnd s o s₂ L ({ frames := 2, cells := 1, slots := 1, locals := 30 } : Room).cells ({ frames := 2, cells := 1, slots := 1, locals := 30 } : Room).slots) _
  refine Wp.back (U' := (s₁.setTop (mkF m 0 #[.val (.ref ar), .val (.int p1), .val (.int (1 : Int32)), .unset, .unset, .unset] []))) (fun t k => castTop (g1ef1 m ar p1 (1 : Int32)) k) ?_
  refine Wp.back (U' := (s₁.setTop (mkF m 1 #[.val (.ref ar), .val (.int p1), .val (.int (1 : Int32)), .unset, .unset, .unset] [(.ref ar)]))) (fun t k => XS.aloadN X0.here hx rfl (hb hby g1d1_0) rfl rfl k) ?_
  obtain ⟨T1, X1, e1, st1⟩ := initO X0 hx hZ hown (hw _ (List.mem_of_getElem? (i := 8) rfl)) (hw _ (List.mem_of_getElem? (i := 9) rfl)) (hw _ (List.mem_of_getElem? (i := 10) rfl)) e0 (g := (mkF m 1 #[.val (.ref ar), .val (.int p1), .val (.int (1 : Int32)), .unset, .unset, .unset] [(.ref ar)])) rfl (by rw [hml]; rfl) rfl (hb hby g1d1_1) (by decide) (W := 0) (by show 2 * 0 + _ ≤ _; exact Nat.le_of_eq rfl) (by decide)
  refine Wp.back (U' := (T1.setTop (mkF m 4 #[.val (.ref ar), .val (.int p1), .val (.int (1 : Int32)), .unset, .unset, .unset] []))) st1 ?_
  refine Wp.back (U' := (T1.setTop (mkF m 43 #[.val (.ref ar), .val (.int p1), .val (.int (1 : Int32)), .unset, .unset, .unset] [(.int (1 : Int32)), (.ref ar)]))) (fun t k => XS.iloadN X1.here hx rfl (hb hby g1d1_4) rfl (XT.iconstV X1.here hx rfl (2 : Int32) (hb hby g1d1_5) (by decide) (XS.icmpNo X1.here hx rfl (hb hby g1d1_6) rfl (flt h2).1 (XS.iloadN X1.here hx rfl (hb hby g1d1_9) rfl (XT.iconstV X1.here hx rfl (1 : Int32) (hb hby g1d1_10) (by decide) (XS.icmpYes X1.here hx rfl (pc0 := 11) (pc' := 29) rfl (hb hby g1d1_11) rfl (flt (by decide)).2.1 (by decide) (by decide) (XS.iloadN X1.here hx rfl (hb hby g1d1_29) rfl (XT.bipushV X1.here hx rfl (57 : Int32) (hb hby g1d1_30) (by decide) (XS.icmpYes X1.here hx rfl (pc0 := 32) (pc' := 41) rfl (hb hby g1d1_32) rfl (flt (by decide)).2.2.2 (by decide) (by decide) (XS.aloadN X1.here hx rfl (hb hby g1d1_41) rfl rfl (XS.iloadN X1.here hx rfl (hb hby g1d1_42) rfl k))))))))))) ?_
  obtain ⟨T2, h2, k2, X2, e2, E2, A2, st2⟩ := newP X1 hx hZ (hw _ (List.mem_of_getElem? (i := 11) rfl)) e1 (g := (mkF m 43 #[.val (.ref ar), .val (.int p1), .val (.int (1 : Int32)), .unset, .unset, .unset] [(.int (1 : Int32)), (.ref ar)])) rfl (hb hby g1d1_43) rfl (by decide) (cap := 1) (by decide) (by decide) (by decide) (by decide)
  obtain ⟨b2, g2⟩ : ∃ z, z = h0.size := ⟨_, rfl⟩
  rw [← g2] at A2 st2
  have ne_ar_b2 : ar ≠ b2 := Nat.ne_of_lt (Nat.lt_of_lt_of_le H0.lt (Nat.le_of_eq g2.symm))
  have g_b2 : n0 ≤ b2 := Nat.le_trans Z0 (Nat.le_of_eq g2.symm)
  have sz_b2 : h0.size ≤ b2 := Nat.le_trans (Keep.refl h0 [ar]).1 (Nat.le_of_eq g2.symm)
  have f3_0 := Nat.le_trans Z0 E2.1
  have f3_1 := H0.ext E2
  have f3_2 := H1.ext E2
  have f3_3 := H2.ext E2
  have f3_4 := H3.ext E2
  have f3_5 := H4.ext E2
  have f3_6 := (Keep.refl h0 [ar]).ext E2
  have V2 : Arv Z h2 b2 k2 .long (1 : Int32) [(.long (0 : Int64))] (.long (0 : Int64)) := (Arv.new A2 (by decide)).pad (pad_rep [] (.long (0 : Int64)) 1)
  refine Wp.back (U' := (T2.setTop (mkF m 45 #[.val (.ref ar), .val (.int p1), .val (.int (1 : Int32)), .unset, .unset, .unset] [(.ref b2), (.ref ar)]))) st2 ?_
  obtain ⟨T4, h4, X4, e4, W4, st4⟩ := putF X2 hx hZ hown (host := "") (Or.inl (hw _ (List.mem_of_getElem? (i := 12) rfl))) Via.refl e2 f3_2 f3_1 (Or.inr ⟨(hw _ (List.mem_of_getElem? (i := 13) rfl)), rfl, hnm⟩) (hw _ (List.mem_of_getElem? (i := 3) rfl)) (ty := (.array .long)) (by decide) rfl rfl (g := (mkF m 45 #[.val (.ref ar), .val (.int p1), .val (.int (1 : Int32)), .unset, .unset, .unset] [(.ref b2), (.ref ar)])) rfl rfl (hb hby g1d1_45)
  have Fw4 := f3_2.same W4
  have f5_0 := Nat.le_trans f3_0 (Keep.of_wr W4).1
  have f5_1 := f3_1.wr W4
  have f5_2 := f3_3.other W4 (Or.inr (slot_ne (Or.inr (hw _ (List.mem_of_getElem? (i := 16) rfl))) (Or.inr (hw _ (List.mem_of_getElem? (i := 13) rfl))) (by decide) (t := .int) (t' := (.array .long)) (by decide) (by decide)))
  have f5_3 := f3_4.other W4 (Or.inr (slot_ne (Or.inr (hw _ (List.mem_of_getElem? (i := 18) rfl))) (Or.inr (hw _ (List.mem_of_getElem? (i := 13) rfl))) (by decide) (t := .int) (t' := (.array .long)) (by decide) (by decide)))
  have f5_4 := f3_5.other W4 (Or.inr (slot_ne (Or.inr (hw _ (List.mem_of_getElem? (i := 29) rfl))) (Or.inr (hw _ (List.mem_of_getElem? (i := 13) rfl))) (by decide) (t := .int) (t' := (.array .long)) (by decide) (by decide)))
  have f5_5 := f3_6.wr W4 (Or.inl (List.mem_of_getElem? (i := 0) rfl))
  have f5_6 := V2.other W4 (Ne.symm ne_ar_b2)
  have N4 := Fr.snoc X4 N0 g_ar
  refine Wp.back (U' := (T4.setTop (mkF m 48 #[.val (.ref ar), .val (.int p1), .val (.int (1 : Int32)), .unset, .unset, .unset] []))) st4 ?_
  refine Wp.back (U' := (T4.setTop (mkF m 66 #[.val (.ref ar), .val (.int p1), .val (.int (1 : Int32)), .val (.long (1 : Int64)), .second, .val (.int (0 : Int32))] [(.long ((144115188075855872 : Int64) / (p1).toInt64)), (.long (1 : Int64))]))) (fun t k => XT.lconstV X4.here hx rfl (1 : Int64) (hb hby g1d1_48) (by decide) (XS.lstoreN X4.here hx rfl (hb hby g1d1_49) rfl (l' := #[.val (.ref ar), .val (.int p1), .val (.int (1 : Int32)), .val (.long (1 : Int64)), .second, .unset]) rfl (XT.iconstV X4.here hx rfl (0 : Int32) (hb hby g1d1_50) (by decide) (XS.istore X4.here hx rfl (hb hby g1d1_51) rfl (l' := #[.val (.ref ar), .val (.int p1), .val (.int (1 : Int32)), .val (.long (1 : Int64)), .second, .val (.int (0 : Int32))]) rfl (XS.iload X4.here hx rfl (hb hby g1d1_53) rfl (XS.iloadN X4.here hx rfl (hb hby g1d1_55) rfl (XS.icmpNo X4.here hx rfl (hb hby g1d1_56) rfl (tlt (by decide)).2.1 (XS.lloadN X4.here hx rfl (hb hby g1d1_59) rfl (Jvm.Stand.ldc2J X4 hx hown (mvT hZ (hw _ (List.mem_of_getElem? (i := 14) rfl))) rfl (hb hby g1d1_60) (XS.iloadN X4.here hx rfl (hb hby g1d1_63) rfl (XS.i2l X4.here hx rfl (hb hby g1d1_64) rfl (XS.ldiv X4.here hx rfl (hb hby g1d1_65) rfl hnz k)))))))))))) ?_
  refine Wp.back (U' := (T4.setTop (mkF m 77 #[.val (.ref ar), .val (.int p1), .val (.int (1 : Int32)), .val (.long (1 : Int64)), .second, .val (.int (0 : Int32))] [(.ref ar)]))) (fun t k => XS.lcmp X4.here hx rfl (hb hby g1d1_66) rfl (XS.ifYes X4.here hx rfl (pc0 := 67) (pc' := 76) rfl (hb hby g1d1_67) rfl ((if0 _ _).trans (flt (fun q => hp0 ((lw_gt (1 : Int64) ((144115188075855872 : Int64) / (p1).toInt64)).mp q))).2.2.2) (by decide) (by decide) (XS.aloadN X4.here hx rfl (hb hby g1d1_76) rfl rfl k))) ?_
  obtain ⟨T6, X6, e6, st6⟩ := getF X4 hx hZ hown (host := "") (Or.inl (hw _ (List.mem_of_getElem? (i := 12) rfl))) Via.refl e4 Fw4 (g := (mkF m 77 #[.val (.ref ar), .val (.int p1), .val (.int (1 : Int32)), .val (.long (1 : Int64)), .second, .val (.int (0 : Int32))] [(.ref ar)])) rfl rfl (hb hby g1d1_77)
  refine Wp.back (U' := (T6.setTop (mkF m 80 #[.val (.ref ar), .val (.int p1), .val (.int (1 : Int32)), .val (.long (1 : Int64)), .second, .val (.int (0 : Int32))] [(.ref b2)]))) st6 ?_
  refine Wp.back (U' := (T6.setTop (mkF m 83 #[.val (.ref ar), .val (.int p1), .val (.int (1 : Int32)), .val (.long (1 : Int64)), .second, .val (.int (0 : Int32))] [(.long (1 : Int64)), (.int (0 : Int32)), (.ref b2)]))) (fun t k => XS.iload X6.here hx rfl (hb hby g1d1_80) rfl (XS.lloadN X6.here hx rfl (hb hby g1d1_82) rfl k)) ?_
  have vq7 := f5_6
  obtain ⟨cl7, Ar7, qa7, qs7, qn7, qh7, qg7⟩ := vq7
  have hin7 : ¬ ((0 : Int32) < 0 ∨ cl7.slots.size ≤ ((0 : Int32)).toNatClampNeg) := inb_of qs7 ⟨by decide, by decide⟩
  obtain ⟨T7, h7, X7, e7, W7, st7⟩ := stJ X6 hx hZ e6 Ar7 (j := (0 : Int32)) hin7 (g := (mkF m 83 #[.val (.ref ar), .val (.int p1), .val (.int (1 : Int32)), .val (.long (1 : Int64)), .second, .val (.int (0 : Int32))] [(.long (1 : Int64)), (.int (0 : Int32)), (.ref b2)])) rfl rfl (hb hby g1d1_83)
  have V7 : Arv Z h7 b2 k2 .long (1 : Int32) [(.long (1 : Int64))] (.long (0 : Int64)) := Arv.set Ar7 qa7 qs7 qn7 qh7 qg7 rfl W7 0 rfl (Nat.le_of_ble_eq_true rfl)
  have f8_0 := Nat.le_trans f5_0 (Keep.of_wr W7).1
  have f8_1 := f5_1.wr W7
  have f8_2 := f5_2.other W7 (Or.inl ne_ar_b2)
  have f8_3 := f5_3.other W7 (Or.inl ne_ar_b2)
  have f8_4 := f5_4.other W7 (Or.inl ne_ar_b2)
  have f8_5 := f5_5.wr W7 (Or.inr sz_b2)
  have f8_6 := Fw4.other W7 (Or.inl ne_ar_b2)
  have N7 := Fr.snoc X7 N4 g_b2
  refine Wp.back (U' := (T7.setTop (mkF m 84 #[.val (.ref ar), .val (.int p1), .val (.int (1 : Int32)), .val (.long (1 : Int64)), .second, .val (.int (0 : Int32))] []))) st7 ?_
  refine Wp.back (U' := (T7.setTop (mkF m 97 #[.val (.ref ar), .val (.int p1), .val (.int (1 : Int32)), .val (.long ((1 : Int64) * (p1).toInt64)), .second, .val (.int (1 : Int32))] [(.int p1), (.ref ar)]))) (fun t k => XS.lloadN X7.here hx rfl (hb hby g1d1_84) rfl (XS.iloadN X7.here hx rfl (hb hby g1d1_85) rfl (XS.i2l X7.here hx rfl (hb hby g1d1_86) rfl (XS.lmul X7.here hx rfl (hb hby g1d1_87) rfl (XS.lstoreN X7.here hx rfl (hb hby g1d1_88) rfl (l' := #[.val (.ref ar), .val (.int p1), .val (.int (1 : Int32)), .val (.long ((1 : Int64) * (p1).toInt64)), .second, .val (.int (0 : Int32))]) rfl (XT.iincV X7.here hx rfl (1 : Int32) (hb hby g1d1_89) (by decide) rfl (l' := #[.val (.ref ar), .val (.int p1), .val (.int (1 : Int32)), .val (.long ((1 : Int64) * (p1).toInt64)), .second, .val (.int (1 : Int32))]) rfl (XS.goto X7.here hx rfl (pc0 := 92) (pc' := 53) rfl (hb hby g1d1_92) (by decide) (by decide) (XS.iload X7.here hx rfl (hb hby g1d1_53) rfl (XS.iloadN X7.here hx rfl (hb hby g1d1_55) rfl (XS.icmpYes X7.here hx rfl (pc0 := 56) (pc' := 95) rfl (hb hby g1d1_56) rfl (flt (by decide)).2.1 (by decide) (by decide) (XS.aloadN X7.here hx rfl (hb hby g1d1_95) rfl rfl (XS.iloadN X7.here hx rfl (hb hby g1d1_96) rfl k)))))))))))) ?_
  obtain ⟨T9, h9, X9, e9, W9, st9⟩ := putF X7 hx hZ hown (host := "") (Or.inl (hw _ (List.mem_of_getElem? (i := 15) rfl))) Via.refl e7 f8_2 f8_1 (Or.inr ⟨(hw _ (List.mem_of_getElem? (i := 16) rfl)), rfl, hnm⟩) (hw _ (List.mem_of_getElem? (i := 3) rfl)) (ty := .int) (by decide) rfl rfl (g := (mkF m 97 #[.val (.ref ar), .val (.int p1), .val (.int (1 : Int32)), .val (.long ((1 : Int64) * (p1).toInt64)), .second, .val (.int (1 : Int32))] [(.int p1), (.ref ar)])) rfl rfl (hb hby g1d1_97)
  have Fw9 := f8_2.same W9
  have f10_0 := Nat.le_trans f8_0 (Keep.of_wr W9).1
  have f10_1 := f8_1.wr W9
  have f10_2 := f8_3.other W9 (Or.inr (slot_ne (Or.inr (hw _ (List.mem_of_getElem? (i := 18) rfl))) (Or.inr (hw _ (List.mem_of_getElem? (i := 16) rfl))) (by decide) (t := .int) (t' := .int) (by decide) (by decide)))
  have f10_3 := f8_4.other W9 (Or.inr (slot_ne (Or.inr (hw _ (List.mem_of_getElem? (i := 29) rfl))) (Or.inr (hw _ (List.mem_of_getElem? (i := 16) rfl))) (by decide) (t := .int) (t' := .int) (by decide) (by decide)))
  have f10_4 := f8_5.wr W9 (Or.inl (List.mem_of_getElem? (i := 0) rfl))
  have f10_5 := f8_6.other W9 (Or.inr (slot_ne (Or.inr (hw _ (List.mem_of_getElem? (i := 13) rfl))) (Or.inr (hw _ (List.mem_of_getElem? (i := 16) rfl))) (by decide) (t := (.array .long)) (t' := .int) (by decide) (by decide)))
  have f10_6 := V7.other W9 (Ne.symm ne_ar_b2)
  have N9 := Fr.snoc X9 N7 g_ar
  refine Wp.back (U' := (T9.setTop (mkF m 100 #[.val (.ref ar), .val (.int p1), .val (.int (1 : Int32)), .val (.long ((1 : Int64) * (p1).toInt64)), .second, .val (.int (1 : Int32))] []))) st9 ?_
  refine Wp.back (U' := (T9.setTop (mkF m 102 #[.val (.ref ar), .val (.int p1), .val (.int (1 : Int32)), .val (.long ((1 : Int64) * (p1).toInt64)), .second, .val (.int (1 : Int32))] [(.int (1 : Int32)), (.ref ar)]))) (fun t k => XS.aloadN X9.here hx rfl (hb hby g1d1_100) rfl rfl (XS.iloadN X9.here hx rfl (hb hby g1d1_101) rfl k)) ?_
  obtain ⟨T11, h11, X11, e11, W11, st11⟩ := putF X9 hx hZ hown (host := "") (Or.inl (hw _ (List.mem_of_getElem? (i := 17) rfl))) Via.refl e9 f10_2 f10_1 (Or.inr ⟨(hw _ (List.mem_of_getElem? (i := 18) rfl)), rfl, hnm⟩) (hw _ (List.mem_of_getElem? (i := 3) rfl)) (ty := .int) (by decide) rfl rfl (g := (mkF m 102 #[.val (.ref ar), .val (.int p1), .val (.int (1 : Int32)), .val (.long ((1 : Int64) * (p1).toInt64)), .second, .val (.int (1 : Int32))] [(.int (1 : Int32)), (.ref ar)])) rfl rfl (hb hby g1d1_102)
  have Fw11 := f10_2.same W11
  have f12_0 := Nat.le_trans f10_0 (Keep.of_wr W11).1
  have f12_1 := f10_1.wr W11
  have f12_2 := f10_3.other W11 (Or.inr (slot_ne (Or.inr (hw _ (List.mem_of_getElem? (i := 29) rfl))) (Or.inr (hw _ (List.mem_of_getElem? (i := 18) rfl))) (by decide) (t := .int) (t' := .int) (by decide) (by decide)))
  have f12_3 := f10_4.wr W11 (Or.inl (List.mem_of_getElem? (i := 0) rfl))
  have f12_4 := f10_5.other W11 (Or.inr (slot_ne (Or.inr (hw _ (List.mem_of_getElem? (i := 13) rfl))) (Or.inr (hw _ (List.mem_of_getElem? (i := 18) rfl))) (by decide) (t := (.array .long)) (t' := .int) (by decide) (by decide)))
  have f12_5 := f10_6.other W11 (Ne.symm ne_ar_b2)
  have f12_6 := Fw9.other W11 (Or.inr (slot_ne (Or.inr (hw _ (List.mem_of_getElem? (i := 16) rfl))) (Or.inr (hw _ (List.mem_of_getElem? (i := 18) rfl))) (by decide) (t := .int) (t' := .int) (by decide) (by decide)))
  have N11 := Fr.snoc X11 N9 g_ar
  refine Wp.back (U' := (T11.setTop (mkF m 105 #[.val (.ref ar), .val (.int p1), .val (.int (1 : Int32)), .val (.long ((1 : Int64) * (p1).toInt64)), .second, .val (.int (1 : Int32))] []))) st11 ?_
  refine Wp.back (U' := (T11.setTop (mkF m 111 #[.val (.ref ar), .val (.int p1), .val (.int (1 : Int32)), .val (.long ((1 : Int64) * (p1).toInt64)), .second, .val (.int (1 : Int32))] [(.long (((1 : Int64) * (p1).toInt64) - (1 : Int64))), (.int (64 : Int32)), (.ref ar)]))) (fun t k => XS.aloadN X11.here hx rfl (hb hby g1d1_105) rfl rfl (XT.bipushV X11.here hx rfl (64 : Int32) (hb hby g1d1_106) (by decide) (XS.lloadN X11.here hx rfl (hb hby g1d1_108) rfl (XT.lconstV X11.here hx rfl (1 : Int64) (hb hby g1d1_109) (by decide) (XS.lsub X11.here hx rfl (hb hby g1d1_110) rfl k))))) ?_
  obtain ⟨_, _, ⟨T13, L13, k13, n13⟩, -, X13, ⟨Lc13, hQ13, l13, y13, z13⟩, st13⟩ := Jvm.LawKit.callS X11 hx (y := (⟨"java/lang/Long", "numberOfLeadingZeros", "(J)I"⟩ : MethodName)) hown (mvT hZ (hw _ (List.mem_of_getElem? (i := 19) rfl))) (mvT hZ (hw _ (List.mem_of_getElem? (i := 20) rfl))) (mvT hZ (hw _ (List.mem_of_getElem? (i := 21) rfl))) (mvT hZ (hw _ (List.mem_of_getElem? (i := 22) rfl))) (by decide) (backOf (W := 2) (rm_f_lnz l Z a0 hw [] (((1 : Int64) * (p1).toInt64) - (1 : Int64)) h11 n0 f12_0 ) hZ (hw _ (List.mem_of_getElem? (i := 22) rfl)) (hw _ (List.mem_of_getElem? (i := 21) rfl)) (by decide) (by decide)) (g := (mkF m 111 #[.val (.ref ar), .val (.int p1), .val (.int (1 : Int32)), .val (.long ((1 : Int64) * (p1).toInt64)), .second, .val (.int (1 : Int32))] [(.long (((1 : Int64) * (p1).toInt64) - (1 : Int64))), (.int (64 : Int32)), (.ref ar)])) rfl (by rw [hml]; rfl) (argsL := [(.long (((1 : Int64) * (p1).toInt64) - (1 : Int64)))]) (rest := [(.int (64 : Int32)), (.ref ar)]) (lenOf g1pd1_0 rfl) rfl (by show 2 * 0 + _ ≤ _; exact Nat.le_of_eq rfl) (hb hby g1d1_111) (fun _ _ => ⟨rfl, e11, (by decide : 1 + 0 ≤ _), (by decide : 1 + 0 ≤ _)⟩)
  dsimp only [Pt.U, Pt.locs, Pt.cells, Pt.slots] at X13 l13 y13 z13 st13 hQ13
  subst l13 y13 z13
  obtain ⟨rfl, N13q, e13⟩ := hQ13
  have N13 := Fr.app N11 N13q
  refine Wp.back (U' := (T13.setTop (mkF m 114 #[.val (.ref ar), .val (.int p1), .val (.int (1 : Int32)), .val (.long ((1 : Int64) * (p1).toInt64)), .second, .val (.int (1 : Int32))] [(.int (f_lnz (((1 : Int64) * (p1).toInt64) - (1 : Int64)))), (.int (64 : Int32)), (.ref ar)]))) st13 ?_
  refine Wp.back (U' := (T13.setTop (mkF m 115 #[.val (.ref ar), .val (.int p1), .val (.int (1 : Int32)), .val (.long ((1 : Int64) * (p1).toInt64)), .second, .val (.int (1 : Int32))] [(.int ((64 : Int32) - (f_lnz (((1 : Int64) * (p1).toInt64) - (1 : Int64))))), (.ref ar)]))) (fun t k => XS.isub X13.here hx rfl (hb hby g1d1_114) rfl k) ?_
  obtain ⟨T14, h14, X14, e14, W14, st14⟩ := putF X13 hx hZ hown (host := "") (Or.inl (hw _ (List.mem_of_getElem? (i := 28) rfl))) Via.refl e13 f12_2 f12_1 (Or.inr ⟨(hw _ (List.mem_of_getElem? (i := 29) rfl)), rfl, hnm⟩) (hw _ (List.mem_of_getElem? (i := 3) rfl)) (ty := .int) (by decide) rfl rfl (g := (mkF m 115 #[.val (.ref ar), .val (.int p1), .val (.int (1 : Int32)), .val (.long ((1 : Int64) * (p1).toInt64)), .second, .val (.int (1 : Int32))] [(.int ((64 : Int32) - (f_lnz (((1 : Int64) * (p1).toInt64) - (1 : Int64))))), (.ref ar)])) rfl rfl (hb hby g1d1_115)
  have Fw14 := f12_2.same W14
  have f15_0 := Nat.le_trans f12_0 (Keep.of_wr W14).1
  have f15_1 := f12_1.wr W14
  have f15_2 := f12_3.wr W14 (Or.inl (List.mem_of_getElem? (i := 0) rfl))
  have f15_3 := f12_4.other W14 (Or.inr (slot_ne (Or.inr (hw _ (List.mem_of_getElem? (i := 13) rfl))) (Or.inr (hw _ (List.mem_of_getElem? (i := 29) rfl))) (by decide) (t := (.array .long)) (t' := .int) (by decide) (by decide)))
  have f15_4 := f12_5.other W14 (Ne.symm ne_ar_b2)
  have f15_5 := f12_6.other W14 (Or.inr (slot_ne (Or.inr (hw _ (List.mem_of_getElem? (i := 16) rfl))) (Or.inr (hw _ (List.mem_of_getElem? (i := 29) rfl))) (by decide) (t := .int) (t' := .int) (by decide) (by decide)))
  have f15_6 := Fw11.other W14 (Or.inr (slot_ne (Or.inr (hw _ (List.mem_of_getElem? (i := 18) rfl))) (Or.inr (hw _ (List.mem_of_getElem? (i := 29) rfl))) (by decide) (t := .int) (t' := .int) (by decide) (by decide)))
  have N14 := Fr.snoc X14 N13 g_ar
  refine Wp.back (U' := (T14.setTop (mkF m 118 #[.val (.ref ar), .val (.int p1), .val (.int (1 : Int32)), .val (.long ((1 : Int64) * (p1).toInt64)), .second, .val (.int (1 : Int32))] []))) st14 ?_
  obtain ⟨fs, hr, hrun, hended, hW, hsame⟩ := X14.leave (v := none) (fun _ => rfl)
  refine Wp.done (X14.returnOut hx hret (hb hby g1d1_118) hr) hrun hended ⟨_, _, rfl, ?_, ⟨_, rfl⟩, hW, hsame.mono (by decide) (by decide)⟩
  show Q_ini1 Z ar p1 h0 n0 _ T14.heap _
  rw [e14]
  exact ⟨rfl, N14, f15_2, f15_1, f15_6, Fw14⟩
def Q_ini2 (Z : State) (ar : Addr) (p1 : Int32)  (h0 : Heap) (n0 : Nat) (v : Option Value) (h : Heap) (L : List Loc) : Prop := v = none ∧ Fr n0 L ∧ Keep h0 h [ar] ∧ Exa Z h ar "com/example/known_leaks/knownleaks/CellPacking" ∧ Fld Z h ar "com/example/known_leaks/knownleaks/CellPacking" "cellsPerBlock" "I" (.int (2 : Int32)) ∧ Fld Z h ar "com/example/known_leaks/knownleaks/CellPacking" "blockBits" "I" (.int ((64 : Int32) - (f_lnz ((((1 : Int64) * (p1).toInt64) * (p1).toInt64) - (1 : Int64)))))
theorem g2d1_0 : decode prog_4_method_1_code 0 = .ok (.aload_n 0, 1) := by decide +kernel
theorem g2d1_1 : decode prog_4_method_1_code 1 = .ok (.invokespecial 1, 3) := by decide +kernel
theorem g2d1_4 : decode prog_4_method_1_code 4 = .ok (.iload_n 1, 1) := by decide +kernel
theorem g2d1_5 : decode prog_4_method_1_code 5 = .ok (.iconst 2, 1) := by decide +kernel
theorem g2d1_6 : decode prog_4_method_1_code 6 = .ok (.if_icmp .lt 8, 3) := by decide +kernel
theorem g2d1_9 : decode prog_4_method_1_code 9 = .ok (.iload_n 2, 1) := by decide +kernel
theorem g2d1_10 : decode prog_4_method_1_code 10 = .ok (.iconst 1, 1) := by decide +kernel
theorem g2d1_11 : decode prog_4_method_1_code 11 = .ok (.if_icmp .ge 18, 3) := by decide +kernel
theorem g2d1_29 : decode prog_4_method_1_code 29 = .ok (.iload_n 2, 1) := by decide +kernel
theorem g2d1_30 : decode prog_4_method_1_code 30 = .ok (.bipush 57, 2) := by decide +kernel
theorem g2d1_32 : decode prog_4_method_1_code 32 = .ok (.if_icmp .le 9, 3) := by decide +kernel
theorem g2d1_41 : decode prog_4_method_1_code 41 = .ok (.aload_n 0, 1) := by decide +kernel
theorem g2d1_42 : decode prog_4_method_1_code 42 = .ok (.iload_n 2, 1) := by decide +kernel
theorem g2d1_43 : decode prog_4_method_1_code 43 = .ok (.newarray .long, 2) := by decide +kernel
theorem g2d1_45 : decode prog_4_method_1_code 45 = .ok (.putfield 22, 3) := by decide +kernel
theorem g2d1_48 : decode prog_4_method_1_code 48 = .ok (.lconst 1, 1) := by decide +kernel
theorem g2d1_49 : decode prog_4_method_1_code 49 = .ok (.lstore_n 3, 1) := by decide +kernel
theorem g2d1_50 : decode prog_4_method_1_code 50 = .ok (.iconst 0, 1) := by decide +kernel
theorem g2d1_51 : decode prog_4_method_1_code 51 = .ok (.istore 5, 2) := by decide +kernel
theorem g2d1_53 : decode prog_4_method_1_code 53 = .ok (.iload 5, 2) := by decide +kernel
theorem g2d1_55 : decode prog_4_method_1_code 55 = .ok (.iload_n 2, 1) := by decide +kernel
theorem g2d1_56 : decode prog_4_method_1_code 56 = .ok (.if_icmp .ge 39, 3) := by decide +kernel
theorem g2d1_59 : decode prog_4_method_1_code 59 = .ok (.lload_n 3, 1) := by decide +kernel
theorem g2d1_60 : decode prog_4_method_1_code 60 = .ok (.ldc2_w 26, 3) := by decide +kernel
theorem g2d1_63 : decode prog_4_method_1_code 63 = .ok (.iload_n 1, 1) := by decide +kernel
theorem g2d1_64 : decode prog_4_method_1_code 64 = .ok (.i2l, 1) := by decide +kernel
theorem g2d1_65 : decode prog_4_method_1_code 65 = .ok (.ldiv, 1) := by decide +kernel
theorem g2d1_66 : decode prog_4_method_1_code 66 = .ok (.lcmp, 1) := by decide +kernel
theorem g2d1_67 : decode prog_4_method_1_code 67 = .ok (.ifCond .le 9, 3) := by decide +kernel
theorem g2d1_76 : decode prog_4_method_1_code 76 = .ok (.aload_n 0, 1) := by decide +kernel
theorem g2d1_77 : decode prog_4_method_1_code 77 = .ok (.getfield 22, 3) := by decide +kernel
theorem g2d1_80 : decode prog_4_method_1_code 80 = .ok (.iload 5, 2) := by decide +kernel
theorem g2d1_82 : decode prog_4_method_1_code 82 = .ok (.lload_n 3, 1) := by decide +kernel
theorem g2d1_83 : decode prog_4_method_1_code 83 = .ok (.lastore, 1) := by decide +kernel
theorem g2d1_84 : decode prog_4_method_1_code 84 = .ok (.lload_n 3, 1) := by decide +kernel
theorem g2d1_85 : decode prog_4_method_1_code 85 = .ok (.iload_n 1, 1) := by decide +kernel
theorem g2d1_86 : decode prog_4_method_1_code 86 = .ok (.i2l, 1) := by decide +kernel
theorem g2d1_87 : decode prog_4_method_1_code 87 = .ok (.lmul, 1) := by decide +kernel
theorem g2d1_88 : decode prog_4_method_1_code 88 = .ok (.lstore_n 3, 1) := by decide +kernel
theorem g2d1_89 : decode prog_4_method_1_code 89 = .ok (.iinc 5 1, 3) := by decide +kernel
theorem g2d1_92 : decode prog_4_method_1_code 92 = .ok (.goto (-39), 3) := by decide +kernel
theorem g2d1_95 : decode prog_4_method_1_code 95 = .ok (.aload_n 0, 1) := by decide +kernel
theorem g2d1_96 : decode prog_4_method_1_code 96 = .ok (.iload_n 1, 1) := by decide +kernel
theorem g2d1_97 : decode prog_4_method_1_code 97 = .ok (.putfield 28, 3) := by decide +kernel
theorem g2d1_100 : decode prog_4_method_1_code 100 = .ok (.aload_n 0, 1) := by decide +kernel
theorem g2d1_101 : decode prog_4_method_1_code 101 = .ok (.iload_n 2, 1) := by decide +kernel
theorem g2d1_102 : decode prog_4_method_1_code 102 = .ok (.putfield 32, 3) := by decide +kernel
theorem g2d1_105 : decode prog_4_method_1_code 105 = .ok (.aload_n 0, 1) := by decide +kernel
theorem g2d1_106 : decode prog_4_method_1_code 106 = .ok (.bipush 64, 2) := by decide +kernel
theorem g2d1_108 : decode prog_4_method_1_code 108 = .ok (.lload_n 3, 1) := by decide +kernel
theorem g2d1_109 : decode prog_4_method_1_code 109 = .ok (.lconst 1, 1) := by decide +kernel
theorem g2d1_110 : decode prog_4_method_1_code 110 = .ok (.lsub, 1) := by decide +kernel
theorem g2d1_111 : decode prog_4_method_1_code 111 = .ok (.invokestatic 35, 3) := by decide +kernel
theorem g2d1_114 : decode prog_4_method_1_code 114 = .ok (.isub, 1) := by decide +kernel
theorem g2d1_115 : decode prog_4_method_1_code 115 = .ok (.putfield 41, 3) := by decide +kernel
theorem g2d1_118 : decode prog_4_method_1_code 118 = .ok (.return_, 1) := by decide +kernel
theorem g2pd1_0 : parseMethodDescriptor "(J)I" = some ⟨[.long], some .int⟩ := by decide +kernel
theorem g2pn1 : plainName "com/example/known_leaks/knownleaks/CellPacking" = true := by first | (simp [plainName, overriddenIn]; done) | decide +kernel
theorem g2ef1 (m : MethodId) (x0 : Addr) (x1 : Int32) (x2 : Int32) : entryFrame m #[(.ref x0), (.int x1), (.int x2)] 6 = mkF m 0 #[.val (.ref x0), .val (.int x1), .val (.int x2), .unset, .unset, .unset] [] := by first | (simp [entryFrame, mkF, argsToLocals, Value.category]; done) | rfl
set_option maxRecDepth 65536 in
set_option maxHeartbeats 40000000 in
theorem rm_ini2 (l : Launch) (Z : State) (a0 : Array Value) (hw : ∀ d ∈ tables_1, d.before a0 Z = true) (ws : List Jvm.Cond) (ar : Addr) (p1 : Int32)  (h0 : Heap) (n0 : Nat) (Z0 : n0 ≤ h0.size) (H0 : Exa Z h0 ar "com/example/known_leaks/knownleaks/CellPacking") (H1 : Fld Z h0 ar "com/example/known_leaks/knownleaks/CellPacking" "powers" "[J" .null) (H2 : Fld Z h0 ar "com/example/known_leaks/knownleaks/CellPacking" "modulus" "I" (.int (0 : Int32))) (H3 : Fld Z h0 ar "com/example/known_leaks/knownleaks/CellPacking" "cellsPerBlock" "I" (.int (0 : Int32))) (H4 : Fld Z h0 ar "com/example/known_leaks/knownleaks/CellPacking" "blockBits" "I" (.int (0 : Int32))) (g_ar : n0 ≤ ar) (h2 : ¬ p1 < (2 : Int32)) (hnz : (p1).toInt64 ≠ 0) (hp0 : ¬ ((144115188075855872 : Int64) / (p1).toInt64) < (1 : Int64)) (hp1 : ¬ ((144115188075855872 : Int64) / (p1).toInt64) < ((1 : Int64) * (p1).toInt64)) :
    MetFree l (⟨"com/example/known_leaks/knownleaks/CellPacking", "<init>", "(II)V"⟩ : MethodName) (head1 (Jvm.Cond.code (⟨"com/example/known_leaks/knownleaks/CellPacking", "<init>", "(II)V"⟩ : MethodName) prog_4_method_1_code 6 none :: ws) ({ frames := 2, cells := 1, slots := 2, locals := 30 } : Room)) (fun a U => a = #[(.ref ar), (.int p1), (.int (2 : Int32))] ∧ Z.Warmed39 U.vm ∧ U.heap = h0) (fun _ _ _ _ _ => True) (fun _ U o U' => ∃ v L, o = .returned v ∧ Q_ini2 Z ar p1 h0 n0 v U'.heap L ∧ FrameEnd U o U' L ({ frames := 2, cells := 1, slots := 2, locals := 30 } : Room).cells ({ frames := 2, cells := 1, slots := 2, locals := 30 } : Room).slots) := by
  refine MetFree.of_bodySF (plainFor_of_name g2pn1) hisR ?_
  intro p e s m args below meth c s₁ Bd hml0 hP hK
  obtain ⟨rfl, hZ, hh⟩ := hP
  have hx := Bd.exec
  have hby := Bd.bytes
  have hret := Bd.returns
  have hlk := Bd.notSynchronized
  have hml : c.maxLocals = 6 := hml0
  have hown : s.vm.findClass "com/example/known_leaks/knownleaks/CellPacking" = some m.cls := findClass_of_methodNamed Bd.named
  have hnm := (name_of_methodNamed Bd.named Bd.method).1
  have X0 : Stand p l e ({ frames := 2, cells := 1, slots := 2, locals := 30 } : Room) s m #[(.ref ar), (.int p1), (.int (2 : Int32))] below meth c s₁ [] 0 0 := Stand.of_body Bd
  have e0 : s₁.heap = h0 := by rw [← hh, Bd.state]; rfl
  have N0 := Fr.nil n0
  show Wp p e below (fun o s₂ => ∃ v L, o = .returned v ∧ Q_ini2 Z ar p1 h0 n0 v s₂.heap L ∧ FrameEnd s o s₂ L ({ frames := 2, cells := 1, slots := 2, locals := 30 } : Room).cells ({ frames := 2, cells := 1, slots := 2, locals := 30 } : Room).slots) _
  refine Wp.back (U' := (s₁.setTop (mkF m 0 #[.val (.ref ar), .val (.int p1), .val (.int (2 : Int32)), .unset, .unset, .unset] []))) (fun t k => castTop (g2ef1 m ar p1 (2 : Int32)) k) ?_
  refine Wp.back (U' := (s₁.setTop (mkF m 1 #[.val (.ref ar), .val (.int p1), .val (.int (2 : Int32)), .unset, .unset, .unset] [(.ref ar)]))) (fun t k => XS.aloadN X0.here hx rfl (hb hby g2d1_0) rfl rfl k) ?_
  obtain ⟨T1, X1, e1, st1⟩ := initO X0 hx hZ hown (hw _ (List.mem_of_getElem? (i := 8) rfl)) (hw _ (List.mem_of_getElem? (i := 9) rfl)) (hw _ (List.mem_of_getElem? (i := 10) rfl)) e0 (g := (mkF m 1 #[.val (.ref ar), .val (.int p1), .val (.int (2 : Int32)), .unset, .unset, .unset] [(.ref ar)])) rfl (by rw [hml]; rfl) rfl (hb hby g2d1_1) (by decide) (W := 0) (by show 2 * 0 + _ ≤ _; exact Nat.le_of_eq rfl) (by decide)
  refine Wp.back (U' := (T1.setTop (mkF m 4 #[.val (.ref ar), .val (.int p1), .val (.int (2 : Int32)), .unset, .unset, .unset] []))) st1 ?_
  refine Wp.back (U' := (T1.setTop (mkF m 43 #[.val (.ref ar), .val (.int p1), .val (.int (2 : Int32)), .unset, .unset, .unset] [(.int (2 : Int32)), (.ref ar)]))) (fun t k => XS.iloadN X1.here hx rfl (hb hby g2d1_4) rfl (XT.iconstV X1.here hx rfl (2 : Int32) (hb hby g2d1_5) (by decide) (XS.icmpNo X1.here hx rfl (hb hby g2d1_6) rfl (flt h2).1 (XS.iloadN X1.here hx rfl (hb hby g2d1_9) rfl (XT.iconstV X1.here hx rfl (1 : Int32) (hb hby g2d1_10) (by decide) (XS.icmpYes X1.here hx rfl (pc0 := 11) (pc' := 29) rfl (hb hby g2d1_11) rfl (flt (by decide)).2.1 (by decide) (by decide) (XS.iloadN X1.here hx rfl (hb hby g2d1_29) rfl (XT.bipushV X1.here hx rfl (57 : Int32) (hb hby g2d1_30) (by decide) (XS.icmpYes X1.here hx rfl (pc0 := 32) (pc' := 41) rfl (hb hby g2d1_32) rfl (flt (by decide)).2.2.2 (by decide) (by decide) (XS.aloadN X1.here hx rfl (hb hby g2d1_41) rfl rfl (XS.iloadN X1.here hx rfl (hb hby g2d1_42) rfl k))))))))))) ?_
  obtain ⟨T2, h2, k2, X2, e2, E2, A2, st2⟩ := newP X1 hx hZ (hw _ (List.mem_of_getElem? (i := 11) rfl)) e1 (g := (mkF m 43 #[.val (.ref ar), .val (.int p1), .val (.int (2 : Int32)), .unset, .unset, .unset] [(.int (2 : Int32)), (.ref ar)])) rfl (hb hby g2d1_43) rfl (by decide) (cap := 2) (by decide) (by decide) (by decide) (by decide)
  obtain ⟨b2, g2⟩ : ∃ z, z = h0.size := ⟨_, rfl⟩
  rw [← g2] at A2 st2
  have ne_ar_b2 : ar ≠ b2 := Nat.ne_of_lt (Nat.lt_of_lt_of_le H0.lt (Nat.le_of_eq g2.symm))
  have g_b2 : n0 ≤ b2 := Nat.le_trans Z0 (Nat.le_of_eq g2.symm)
  have sz_b2 : h0.size ≤ b2 := Nat.le_trans (Keep.refl h0 [ar]).1 (Nat.le_of_eq g2.symm)
  have f3_0 := Nat.le_trans Z0 E2.1
  have f3_1 := H0.ext E2
  have f3_2 := H1.ext E2
  have f3_3 := H2.ext E2
  have f3_4 := H3.ext E2
  have f3_5 := H4.ext E2
  have f3_6 := (Keep.refl h0 [ar]).ext E2
  have V2 : Arv Z h2 b2 k2 .long (2 : Int32) [(.long (0 : Int64)), (.long (0 : Int64))] (.long (0 : Int64)) := (Arv.new A2 (by decide)).pad (pad_rep [] (.long (0 : Int64)) 2)
  refine Wp.back (U' := (T2.setTop (mkF m 45 #[.val (.ref ar), .val (.int p1), .val (.int (2 : Int32)), .unset, .unset, .unset] [(.ref b2), (.ref ar)]))) st2 ?_
  obtain ⟨T4, h4, X4, e4, W4, st4⟩ := putF X2 hx hZ hown (host := "") (Or.inl (hw _ (List.mem_of_getElem? (i := 12) rfl))) Via.refl e2 f3_2 f3_1 (Or.inr ⟨(hw _ (List.mem_of_getElem? (i := 13) rfl)), rfl, hnm⟩) (hw _ (List.mem_of_getElem? (i := 3) rfl)) (ty := (.array .long)) (by decide) rfl rfl (g := (mkF m 45 #[.val (.ref ar), .val (.int p1), .val (.int (2 : Int32)), .unset, .unset, .unset] [(.ref b2), (.ref ar)])) rfl rfl (hb hby g2d1_45)
  have Fw4 := f3_2.same W4
  have f5_0 := Nat.le_trans f3_0 (Keep.of_wr W4).1
  have f5_1 := f3_1.wr W4
  have f5_2 := f3_3.other W4 (Or.inr (slot_ne (Or.inr (hw _ (List.mem_of_getElem? (i := 16) rfl))) (Or.inr (hw _ (List.mem_of_getElem? (i := 13) rfl))) (by decide) (t := .int) (t' := (.array .long)) (by decide) (by decide)))
  have f5_3 := f3_4.other W4 (Or.inr (slot_ne (Or.inr (hw _ (List.mem_of_getElem? (i := 18) rfl))) (Or.inr (hw _ (List.mem_of_getElem? (i := 13) rfl))) (by decide) (t := .int) (t' := (.array .long)) (by decide) (by decide)))
  have f5_4 := f3_5.other W4 (Or.inr (slot_ne (Or.inr (hw _ (List.mem_of_getElem? (i := 29) rfl))) (Or.inr (hw _ (List.mem_of_getElem? (i := 13) rfl))) (by decide) (t := .int) (t' := (.array .long)) (by decide) (by decide)))
  have f5_5 := f3_6.wr W4 (Or.inl (List.mem_of_getElem? (i := 0) rfl))
  have f5_6 := V2.other W4 (Ne.symm ne_ar_b2)
  have N4 := Fr.snoc X4 N0 g_ar
  refine Wp.back (U' := (T4.setTop (mkF m 48 #[.val (.ref ar), .val (.int p1), .val (.int (2 : Int32)), .unset, .unset, .unset] []))) st4 ?_
  refine Wp.back (U' := (T4.setTop (mkF m 66 #[.val (.ref ar), .val (.int p1), .val (.int (2 : Int32)), .val (.long (1 : Int64)), .second, .val (.int (0 : Int32))] [(.long ((144115188075855872 : Int64) / (p1).toInt64)), (.long (1 : Int64))]))) (fun t k => XT.lconstV X4.here hx rfl (1 : Int64) (hb hby g2d1_48) (by decide) (XS.lstoreN X4.here hx rfl (hb hby g2d1_49) rfl (l' := #[.val (.ref ar), .val (.int p1), .val (.int (2 : Int32)), .val (.long (1 : Int64)), .second, .unset]) rfl (XT.iconstV X4.here hx rfl (0 : Int32) (hb hby g2d1_50) (by decide) (XS.istore X4.here hx rfl (hb hby g2d1_51) rfl (l' := #[.val (.ref ar), .val (.int p1), .val (.int (2 : Int32)), .val (.long (1 : Int64)), .second, .val (.int (0 : Int32))]) rfl (XS.iload X4.here hx rfl (hb hby g2d1_53) rfl (XS.iloadN X4.here hx rfl (hb hby g2d1_55) rfl (XS.icmpNo X4.here hx rfl (hb hby g2d1_56) rfl (tlt (by decide)).2.1 (XS.lloadN X4.here hx rfl (hb hby g2d1_59) rfl (Jvm.Stand.ldc2J X4 hx hown (mvT hZ (hw _ (List.mem_of_getElem? (i := 14) rfl))) rfl (hb hby g2d1_60) (XS.iloadN X4.here hx rfl (hb hby g2d1_63) rfl (XS.i2l X4.here hx rfl (hb hby g2d1_64) rfl (XS.ldiv X4.here hx rfl (hb hby g2d1_65) rfl hnz k)))))))))))) ?_
  refine Wp.back (U' := (T4.setTop (mkF m 77 #[.val (.ref ar), .val (.int p1), .val (.int (2 : Int32)), .val (.long (1 : Int64)), .second, .val (.int (0 : Int32))] [(.ref ar)]))) (fun t k => XS.lcmp X4.here hx rfl (hb hby g2d1_66) rfl (XS.ifYes X4.here hx rfl (pc0 := 67) (pc' := 76) rfl (hb hby g2d1_67) rfl ((if0 _ _).trans (flt (fun q => hp0 ((lw_gt (1 : Int64) ((144115188075855872 : Int64) / (p1).toInt64)).mp q))).2.2.2) (by decide) (by decide) (XS.aloadN X4.here hx rfl (hb hby g2d1_76) rfl rfl k))) ?_
  obtain ⟨T6, X6, e6, st6⟩ := getF X4 hx hZ hown (host := "") (Or.inl (hw _ (List.mem_of_getElem? (i := 12) rfl))) Via.refl e4 Fw4 (g := (mkF m 77 #[.val (.ref ar), .val (.int p1), .val (.int (2 : Int32)), .val (.long (1 : Int64)), .second, .val (.int (0 : Int32))] [(.ref ar)])) rfl rfl (hb hby g2d1_77)
  refine Wp.back (U' := (T6.setTop (mkF m 80 #[.val (.ref ar), .val (.int p1), .val (.int (2 : Int32)), .val (.long (1 : Int64)), .second, .val (.int (0 : Int32))] [(.ref b2)]))) st6 ?_
  refine Wp.back (U' := (T6.setTop (mkF m 83 #[.val (.ref ar), .val (.int p1), .val (.int (2 : Int32)), .val (.long (1 : Int64)), .second, .val (.int (0 : Int32))] [(.long (1 : Int64)), (.int (0 : Int32)), (.ref b2)]))) (fun t k => XS.iload X6.here hx rfl (hb hby g2d1_80) rfl (XS.lloadN X6.here hx rfl (hb hby g2d1_82) rfl k)) ?_
  have vq7 := f5_6
  obtain ⟨cl7, Ar7, qa7, qs7, qn7, qh7, qg7⟩ := vq7
  have hin7 : ¬ ((0 : Int32) < 0 ∨ cl7.slots.size ≤ ((0 : Int32)).toNatClampNeg) := inb_of qs7 ⟨by decide, by decide⟩
  obtain ⟨T7, h7, X7, e7, W7, st7⟩ := stJ X6 hx hZ e6 Ar7 (j := (0 : Int32)) hin7 (g := (mkF m 83 #[.val (.ref ar), .val (.int p1), .val (.int (2 : Int32)), .val (.long (1 : Int64)), .second, .val (.int (0 : Int32))] [(.long (1 : Int64)), (.int (0 : Int32)), (.ref b2)])) rfl rfl (hb hby g2d1_83)
  have V7 : Arv Z h7 b2 k2 .long (2 : Int32) [(.long (1 : Int64)), (.long (0 : Int64))] (.long (0 : Int64)) := Arv.set Ar7 qa7 qs7 qn7 qh7 qg7 rfl W7 0 rfl (Nat.le_of_ble_eq_true rfl)
  have f8_0 := Nat.le_trans f5_0 (Keep.of_wr W7).1
  have f8_1 := f5_1.wr W7
  have f8_2 := f5_2.other W7 (Or.inl ne_ar_b2)
  have f8_3 := f5_3.other W7 (Or.inl ne_ar_b2)
  have f8_4 := f5_4.other W7 (Or.inl ne_ar_b2)
  have f8_5 := f5_5.wr W7 (Or.inr sz_b2)
  have f8_6 := Fw4.other W7 (Or.inl ne_ar_b2)
  have N7 := Fr.snoc X7 N4 g_b2
  refine Wp.back (U' := (T7.setTop (mkF m 84 #[.val (.ref ar), .val (.int p1), .val (.int (2 : Int32)), .val (.long (1 : Int64)), .second, .val (.int (0 : Int32))] []))) st7 ?_
  refine Wp.back (U' := (T7.setTop (mkF m 63 #[.val (.ref ar), .val (.int p1), .val (.int (2 : Int32)), .val (.long ((1 : Int64) * (p1).toInt64)), .second, .val (.int (1 : Int32))] [(.long (144115188075855872 : Int64)), (.long ((1 : Int64) * (p1).toInt64))]))) (fun t k => XS.lloadN X7.here hx rfl (hb hby g2d1_84) rfl (XS.iloadN X7.here hx rfl (hb hby g2d1_85) rfl (XS.i2l X7.here hx rfl (hb hby g2d1_86) rfl (XS.lmul X7.here hx rfl (hb hby g2d1_87) rfl (XS.lstoreN X7.here hx rfl (hb hby g2d1_88) rfl (l' := #[.val (.ref ar), .val (.int p1), .val (.int (2 : Int32)), .val (.long ((1 : Int64) * (p1).toInt64)), .second, .val (.int (0 : Int32))]) rfl (XT.iincV X7.here hx rfl (1 : Int32) (hb hby g2d1_89) (by decide) rfl (l' := #[.val (.ref ar), .val (.int p1), .val (.int (2 : Int32)), .val (.long ((1 : Int64) * (p1).toInt64)), .second, .val (.int (1 : Int32))]) rfl (XS.goto X7.here hx rfl (pc0 := 92) (pc' := 53) rfl (hb hby g2d1_92) (by decide) (by decide) (XS.iload X7.here hx rfl (hb hby g2d1_53) rfl (XS.iloadN X7.here hx rfl (hb hby g2d1_55) rfl (XS.icmpNo X7.here hx rfl (hb hby g2d1_56) rfl (tlt (by decide)).2.1 (XS.lloadN X7.here hx rfl (hb hby g2d1_59) rfl (Jvm.Stand.ldc2J X7 hx hown (mvT hZ (hw _ (List.mem_of_getElem? (i := 14) rfl))) rfl (hb hby g2d1_60) k)))))))))))) ?_
  refine Wp.back (U' := (T7.setTop (mkF m 77 #[.val (.ref ar), .val (.int p1), .val (.int (2 : Int32)), .val (.long ((1 : Int64) * (p1).toInt64)), .second, .val (.int (1 : Int32))] [(.ref ar)]))) (fun t k => XS.iloadN X7.here hx rfl (hb hby g2d1_63) rfl (XS.i2l X7.here hx rfl (hb hby g2d1_64) rfl (XS.ldiv X7.here hx rfl (hb hby g2d1_65) rfl hnz (XS.lcmp X7.here hx rfl (hb hby g2d1_66) rfl (XS.ifYes X7.here hx rfl (pc0 := 67) (pc' := 76) rfl (hb hby g2d1_67) rfl ((if0 _ _).trans (flt (fun q => hp1 ((lw_gt ((1 : Int64) * (p1).toInt64) ((144115188075855872 : Int64) / (p1).toInt64)).mp q))).2.2.2) (by decide) (by decide) (XS.aloadN X7.here hx rfl (hb hby g2d1_76) rfl rfl k)))))) ?_
  obtain ⟨T9, X9, e9, st9⟩ := getF X7 hx hZ hown (host := "") (Or.inl (hw _ (List.mem_of_getElem? (i := 12) rfl))) Via.refl e7 f8_6 (g := (mkF m 77 #[.val (.ref ar), .val (.int p1), .val (.int (2 : Int32)), .val (.long ((1 : Int64) * (p1).toInt64)), .second, .val (.int (1 : Int32))] [(.ref ar)])) rfl rfl (hb hby g2d1_77)
  refine Wp.back (U' := (T9.setTop (mkF m 80 #[.val (.ref ar), .val (.int p1), .val (.int (2 : Int32)), .val (.long ((1 : Int64) * (p1).toInt64)), .second, .val (.int (1 : Int32))] [(.ref b2)]))) st9 ?_
  refine Wp.back (U' := (T9.setTop (mkF m 83 #[.val (.ref ar), .val (.int p1), .val (.int (2 : Int32)), .val (.long ((1 : Int64) * (p1).toInt64)), .second, .val (.int (1 : Int32))] [(.long ((1 : Int64) * (p1).toInt64)), (.int (1 : Int32)), (.ref b2)]))) (fun t k => XS.iload X9.here hx rfl (hb hby g2d1_80) rfl (XS.lloadN X9.here hx rfl (hb hby g2d1_82) rfl k)) ?_
  have vq10 := V7
  obtain ⟨cl10, Ar10, qa10, qs10, qn10, qh10, qg10⟩ := vq10
  have hin10 : ¬ ((1 : Int32) < 0 ∨ cl10.slots.size ≤ ((1 : Int32)).toNatClampNeg) := inb_of qs10 ⟨by decide, by decide⟩
  obtain ⟨T10, h10, X10, e10, W10, st10⟩ := stJ X9 hx hZ e9 Ar10 (j := (1 : Int32)) hin10 (g := (mkF m 83 #[.val (.ref ar), .val (.int p1), .val (.int (2 : Int32)), .val (.long ((1 : Int64) * (p1).toInt64)), .second, .val (.int (1 : Int32))] [(.long ((1 : Int64) * (p1).toInt64)), (.int (1 : Int32)), (.ref b2)])) rfl rfl (hb hby g2d1_83)
  have V10 : Arv Z h10 b2 k2 .long (2 : Int32) [(.long (1 : Int64)), (.long ((1 : Int64) * (p1).toInt64))] (.long (0 : Int64)) := Arv.set Ar10 qa10 qs10 qn10 qh10 qg10 rfl W10 1 rfl (Nat.le_of_ble_eq_true rfl)
  have f11_0 := Nat.le_trans f8_0 (Keep.of_wr W10).1
  have f11_1 := f8_1.wr W10
  have f11_2 := f8_2.other W10 (Or.inl ne_ar_b2)
  have f11_3 := f8_3.other W10 (Or.inl ne_ar_b2)
  have f11_4 := f8_4.other W10 (Or.inl ne_ar_b2)
  have f11_5 := f8_5.wr W10 (Or.inr sz_b2)
  have f11_6 := f8_6.other W10 (Or.inl ne_ar_b2)
  have N10 := Fr.snoc X10 N7 g_b2
  refine Wp.back (U' := (T10.setTop (mkF m 84 #[.val (.ref ar), .val (.int p1), .val (.int (2 : Int32)), .val (.long ((1 : Int64) * (p1).toInt64)), .second, .val (.int (1 : Int32))] []))) st10 ?_
  refine Wp.back (U' := (T10.setTop (mkF m 97 #[.val (.ref ar), .val (.int p1), .val (.int (2 : Int32)), .val (.long (((1 : Int64) * (p1).toInt64) * (p1).toInt64)), .second, .val (.int (2 : Int32))] [(.int p1), (.ref ar)]))) (fun t k => XS.lloadN X10.here hx rfl (hb hby g2d1_84) rfl (XS.iloadN X10.here hx rfl (hb hby g2d1_85) rfl (XS.i2l X10.here hx rfl (hb hby g2d1_86) rfl (XS.lmul X10.here hx rfl (hb hby g2d1_87) rfl (XS.lstoreN X10.here hx rfl (hb hby g2d1_88) rfl (l' := #[.val (.ref ar), .val (.int p1), .val (.int (2 : Int32)), .val (.long (((1 : Int64) * (p1).toInt64) * (p1).toInt64)), .second, .val (.int (1 : Int32))]) rfl (XT.iincV X10.here hx rfl (1 : Int32) (hb hby g2d1_89) (by decide) rfl (l' := #[.val (.ref ar), .val (.int p1), .val (.int (2 : Int32)), .val (.long (((1 : Int64) * (p1).toInt64) * (p1).toInt64)), .second, .val (.int (2 : Int32))]) rfl (XS.goto X10.here hx rfl (pc0 := 92) (pc' := 53) rfl (hb hby g2d1_92) (by decide) (by decide) (XS.iload X10.here hx rfl (hb hby g2d1_53) rfl (XS.iloadN X10.here hx rfl (hb hby g2d1_55) rfl (XS.icmpYes X10.here hx rfl (pc0 := 56) (pc' := 95) rfl (hb hby g2d1_56) rfl (flt (by decide)).2.1 (by decide) (by decide) (XS.aloadN X10.here hx rfl (hb hby g2d1_95) rfl rfl (XS.iloadN X10.here hx rfl (hb hby g2d1_96) rfl k)))))))))))) ?_
  obtain ⟨T12, h12, X12, e12, W12, st12⟩ := putF X10 hx hZ hown (host := "") (Or.inl (hw _ (List.mem_of_getElem? (i := 15) rfl))) Via.refl e10 f11_2 f11_1 (Or.inr ⟨(hw _ (List.mem_of_getElem? (i := 16) rfl)), rfl, hnm⟩) (hw _ (List.mem_of_getElem? (i := 3) rfl)) (ty := .int) (by decide) rfl rfl (g := (mkF m 97 #[.val (.ref ar), .val (.int p1), .val (.int (2 : Int32)), .val (.long (((1 : Int64) * (p1).toInt64) * (p1).toInt64)), .second, .val (.int (2 : Int32))] [(.int p1), (.ref ar)])) rfl rfl (hb hby g2d1_97)
  have Fw12 := f11_2.same W12
  have f13_0 := Nat.le_trans f11_0 (Keep.of_wr W12).1
  have f13_1 := f11_1.wr W12
  have f13_2 := f11_3.other W12 (Or.inr (slot_ne (Or.inr (hw _ (List.mem_of_getElem? (i := 18) rfl))) (Or.inr (hw _ (List.mem_of_getElem? (i := 16) rfl))) (by decide) (t := .int) (t' := .int) (by decide) (by decide)))
  have f13_3 := f11_4.other W12 (Or.inr (slot_ne (Or.inr (hw _ (List.mem_of_getElem? (i := 29) rfl))) (Or.inr (hw _ (List.mem_of_getElem? (i := 16) rfl))) (by decide) (t := .int) (t' := .int) (by decide) (by decide)))
  have f13_4 := f11_5.wr W12 (Or.inl (List.mem_of_getElem? (i := 0) rfl))
  have f13_5 := f11_6.other W12 (Or.inr (slot_ne (Or.inr (hw _ (List.mem_of_getElem? (i := 13) rfl))) (Or.inr (hw _ (List.mem_of_getElem? (i := 16) rfl))) (by decide) (t := (.array .long)) (t' := .int) (by decide) (by decide)))
  have f13_6 := V10.other W12 (Ne.symm ne_ar_b2)
  have N12 := Fr.snoc X12 N10 g_ar
  refine Wp.back (U' := (T12.setTop (mkF m 100 #[.val (.ref ar), .val (.int p1), .val (.int (2 : Int32)), .val (.long (((1 : Int64) * (p1).toInt64) * (p1).toInt64)), .second, .val (.int (2 : Int32))] []))) st12 ?_
  refine Wp.back (U' := (T12.setTop (mkF m 102 #[.val (.ref ar), .val (.int p1), .val (.int (2 : Int32)), .val (.long (((1 : Int64) * (p1).toInt64) * (p1).toInt64)), .second, .val (.int (2 : Int32))] [(.int (2 : Int32)), (.ref ar)]))) (fun t k => XS.aloadN X12.here hx rfl (hb hby g2d1_100) rfl rfl (XS.iloadN X12.here hx rfl (hb hby g2d1_101) rfl k)) ?_
  obtain ⟨T14, h14, X14, e14, W14, st14⟩ := putF X12 hx hZ hown (host := "") (Or.inl (hw _ (List.mem_of_getElem? (i := 17) rfl))) Via.refl e12 f13_2 f13_1 (Or.inr ⟨(hw _ (List.mem_of_getElem? (i := 18) rfl)), rfl, hnm⟩) (hw _ (List.mem_of_getElem? (i := 3) rfl)) (ty := .int) (by decide) rfl rfl (g := (mkF m 102 #[.val (.ref ar), .val (.int p1), .val (.int (2 : Int32)), .val (.long (((1 : Int64) * (p1).toInt64) * (p1).toInt64)), .second, .val (.int (2 : Int32))] [(.int (2 : Int32)), (.ref ar)])) rfl rfl (hb hby g2d1_102)
  have Fw14 := f13_2.same W14
  have f15_0 := Nat.le_trans f13_0 (Keep.of_wr W14).1
  have f15_1 := f13_1.wr W14
  have f15_2 := f13_3.other W14 (Or.inr (slot_ne (Or.inr (hw _ (List.mem_of_getElem? (i := 29) rfl))) (Or.inr (hw _ (List.mem_of_getElem? (i := 18) rfl))) (by decide) (t := .int) (t' := .int) (by decide) (by decide)))
  have f15_3 := f13_4.wr W14 (Or.inl (List.mem_of_getElem? (i := 0) rfl))
  have f15_4 := f13_5.other W14 (Or.inr (slot_ne (Or.inr (hw _ (List.mem_of_getElem? (i := 13) rfl))) (Or.inr (hw _ (List.mem_of_getElem? (i := 18) rfl))) (by decide) (t := (.array .long)) (t' := .int) (by decide) (by decide)))
  have f15_5 := f13_6.other W14 (Ne.symm ne_ar_b2)
  have f15_6 := Fw12.other W14 (Or.inr (slot_ne (Or.inr (hw _ (List.mem_of_getElem? (i := 16) rfl))) (Or.inr (hw _ (List.mem_of_getElem? (i := 18) rfl))) (by decide) (t := .int) (t' := .int) (by decide) (by decide)))
  have N14 := Fr.snoc X14 N12 g_ar
  refine Wp.back (U' := (T14.setTop (mkF m 105 #[.val (.ref ar), .val (.int p1), .val (.int (2 : Int32)), .val (.long (((1 : Int64) * (p1).toInt64) * (p1).toInt64)), .second, .val (.int (2 : Int32))] []))) st14 ?_
  refine Wp.back (U' := (T14.setTop (mkF m 111 #[.val (.ref ar), .val (.int p1), .val (.int (2 : Int32)), .val (.long (((1 : Int64) * (p1).toInt64) * (p1).toInt64)), .second, .val (.int (2 : Int32))] [(.long ((((1 : Int64) * (p1).toInt64) * (p1).toInt64) - (1 : Int64))), (.int (64 : Int32)), (.ref ar)]))) (fun t k => XS.aloadN X14.here hx rfl (hb hby g2d1_105) rfl rfl (XT.bipushV X14.here hx rfl (64 : Int32) (hb hby g2d1_106) (by decide) (XS.lloadN X14.here hx rfl (hb hby g2d1_108) rfl (XT.lconstV X14.here hx rfl (1 : Int64) (hb hby g2d1_109) (by decide) (XS.lsub X14.here hx rfl (hb hby g2d1_110) rfl k))))) ?_
  obtain ⟨_, _, ⟨T16, L16, k16, n16⟩, -, X16, ⟨Lc16, hQ16, l16, y16, z16⟩, st16⟩ := Jvm.LawKit.callS X14 hx (y := (⟨"java/lang/Long", "numberOfLeadingZeros", "(J)I"⟩ : MethodName)) hown (mvT hZ (hw _ (List.mem_of_getElem? (i := 19) rfl))) (mvT hZ (hw _ (List.mem_of_getElem? (i := 20) rfl))) (mvT hZ (hw _ (List.mem_of_getElem? (i := 21) rfl))) (mvT hZ (hw _ (List.mem_of_getElem? (i := 22) rfl))) (by decide) (backOf (W := 2) (rm_f_lnz l Z a0 hw [] ((((1 : Int64) * (p1).toInt64) * (p1).toInt64) - (1 : Int64)) h14 n0 f15_0 ) hZ (hw _ (List.mem_of_getElem? (i := 22) rfl)) (hw _ (List.mem_of_getElem? (i := 21) rfl)) (by decide) (by decide)) (g := (mkF m 111 #[.val (.ref ar), .val (.int p1), .val (.int (2 : Int32)), .val (.long (((1 : Int64) * (p1).toInt64) * (p1).toInt64)), .second, .val (.int (2 : Int32))] [(.long ((((1 : Int64) * (p1).toInt64) * (p1).toInt64) - (1 : Int64))), (.int (64 : Int32)), (.ref ar)])) rfl (by rw [hml]; rfl) (argsL := [(.long ((((1 : Int64) * (p1).toInt64) * (p1).toInt64) - (1 : Int64)))]) (rest := [(.int (64 : Int32)), (.ref ar)]) (lenOf g2pd1_0 rfl) rfl (by show 2 * 0 + _ ≤ _; exact Nat.le_of_eq rfl) (hb hby g2d1_111) (fun _ _ => ⟨rfl, e14, (by decide : 1 + 0 ≤ _), (by decide : 2 + 0 ≤ _)⟩)
  dsimp only [Pt.U, Pt.locs, Pt.cells, Pt.slots] at X16 l16 y16 z16 st16 hQ16
  subst l16 y16 z16
  obtain ⟨rfl, N16q, e16⟩ := hQ16
  have N16 := Fr.app N14 N16q
  refine Wp.back (U' := (T16.setTop (mkF m 114 #[.val (.ref ar), .val (.int p1), .val (.int (2 : Int32)), .val (.long (((1 : Int64) * (p1).toInt64) * (p1).toInt64)), .second, .val (.int (2 : Int32))] [(.int (f_lnz ((((1 : Int64) * (p1).toInt64) * (p1).toInt64) - (1 : Int64)))), (.int (64 : Int32)), (.ref ar)]))) st16 ?_
  refine Wp.back (U' := (T16.setTop (mkF m 115 #[.val (.ref ar), .val (.int p1), .val (.int (2 : Int32)), .val (.long (((1 : Int64) * (p1).toInt64) * (p1).toInt64)), .second, .val (.int (2 : Int32))] [(.int ((64 : Int32) - (f_lnz ((((1 : Int64) * (p1).toInt64) * (p1).toInt64) - (1 : Int64))))), (.ref ar)]))) (fun t k => XS.isub X16.here hx rfl (hb hby g2d1_114) rfl k) ?_
  obtain ⟨T17, h17, X17, e17, W17, st17⟩ := putF X16 hx hZ hown (host := "") (Or.inl (hw _ (List.mem_of_getElem? (i := 28) rfl))) Via.refl e16 f15_2 f15_1 (Or.inr ⟨(hw _ (List.mem_of_getElem? (i := 29) rfl)), rfl, hnm⟩) (hw _ (List.mem_of_getElem? (i := 3) rfl)) (ty := .int) (by decide) rfl rfl (g := (mkF m 115 #[.val (.ref ar), .val (.int p1), .val (.int (2 : Int32)), .val (.long (((1 : Int64) * (p1).toInt64) * (p1).toInt64)), .second, .val (.int (2 : Int32))] [(.int ((64 : Int32) - (f_lnz ((((1 : Int64) * (p1).toInt64) * (p1).toInt64) - (1 : Int64))))), (.ref ar)])) rfl rfl (hb hby g2d1_115)
  have Fw17 := f15_2.same W17
  have f18_0 := Nat.le_trans f15_0 (Keep.of_wr W17).1
  have f18_1 := f15_1.wr W17
  have f18_2 := f15_3.wr W17 (Or.inl (List.mem_of_getElem? (i := 0) rfl))
  have f18_3 := f15_4.other W17 (Or.inr (slot_ne (Or.inr (hw _ (List.mem_of_getElem? (i := 13) rfl))) (Or.inr (hw _ (List.mem_of_getElem? (i := 29) rfl))) (by decide) (t := (.array .long)) (t' := .int) (by decide) (by decide)))
  have f18_4 := f15_5.other W17 (Ne.symm ne_ar_b2)
  have f18_5 := f15_6.other W17 (Or.inr (slot_ne (Or.inr (hw _ (List.mem_of_getElem? (i := 16) rfl))) (Or.inr (hw _ (List.mem_of_getElem? (i := 29) rfl))) (by decide) (t := .int) (t' := .int) (by decide) (by decide)))
  have f18_6 := Fw14.other W17 (Or.inr (slot_ne (Or.inr (hw _ (List.mem_of_getElem? (i := 18) rfl))) (Or.inr (hw _ (List.mem_of_getElem? (i := 29) rfl))) (by decide) (t := .int) (t' := .int) (by decide) (by decide)))
  have N17 := Fr.snoc X17 N16 g_ar
  refine Wp.back (U' := (T17.setTop (mkF m 118 #[.val (.ref ar), .val (.int p1), .val (.int (2 : Int32)), .val (.long (((1 : Int64) * (p1).toInt64) * (p1).toInt64)), .second, .val (.int (2 : Int32))] []))) st17 ?_
  obtain ⟨fs, hr, hrun, hended, hW, hsame⟩ := X17.leave (v := none) (fun _ => rfl)
  refine Wp.done (X17.returnOut hx hret (hb hby g2d1_118) hr) hrun hended ⟨_, _, rfl, ?_, ⟨_, rfl⟩, hW, hsame.mono (by decide) (by decide)⟩
  show Q_ini2 Z ar p1 h0 n0 _ T17.heap _
  rw [e17]
  exact ⟨rfl, N17, f18_2, f18_1, f18_6, Fw17⟩
def Q_ini3 (Z : State) (ar : Addr) (p1 : Int32)  (h0 : Heap) (n0 : Nat) (v : Option Value) (h : Heap) (L : List Loc) : Prop := v = none ∧ Fr n0 L ∧ Keep h0 h [ar] ∧ Exa Z h ar "com/example/known_leaks/knownleaks/CellPacking" ∧ Fld Z h ar "com/example/known_leaks/knownleaks/CellPacking" "cellsPerBlock" "I" (.int (3 : Int32)) ∧ Fld Z h ar "com/example/known_leaks/knownleaks/CellPacking" "blockBits" "I" (.int ((64 : Int32) - (f_lnz (((((1 : Int64) * (p1).toInt64) * (p1).toInt64) * (p1).toInt64) - (1 : Int64)))))
theorem g3d1_0 : decode prog_4_method_1_code 0 = .ok (.aload_n 0, 1) := by decide +kernel
theorem g3d1_1 : decode prog_4_method_1_code 1 = .ok (.invokespecial 1, 3) := by decide +kernel
theorem g3d1_4 : decode prog_4_method_1_code 4 = .ok (.iload_n 1, 1) := by decide +kernel
theorem g3d1_5 : decode prog_4_method_1_code 5 = .ok (.iconst 2, 1) := by decide +kernel
theorem g3d1_6 : decode prog_4_method_1_code 6 = .ok (.if_icmp .lt 8, 3) := by decide +kernel
theorem g3d1_9 : decode prog_4_method_1_code 9 = .ok (.iload_n 2, 1) := by decide +kernel
theorem g3d1_10 : decode prog_4_method_1_code 10 = .ok (.iconst 1, 1) := by decide +kernel
theorem g3d1_11 : decode prog_4_method_1_code 11 = .ok (.if_icmp .ge 18, 3) := by decide +kernel
theorem g3d1_29 : decode prog_4_method_1_code 29 = .ok (.iload_n 2, 1) := by decide +kernel
theorem g3d1_30 : decode prog_4_method_1_code 30 = .ok (.bipush 57, 2) := by decide +kernel
theorem g3d1_32 : decode prog_4_method_1_code 32 = .ok (.if_icmp .le 9, 3) := by decide +kernel
theorem g3d1_41 : decode prog_4_method_1_code 41 = .ok (.aload_n 0, 1) := by decide +kernel
theorem g3d1_42 : decode prog_4_method_1_code 42 = .ok (.iload_n 2, 1) := by decide +kernel
theorem g3d1_43 : decode prog_4_method_1_code 43 = .ok (.newarray .long, 2) := by decide +kernel
theorem g3d1_45 : decode prog_4_method_1_code 45 = .ok (.putfield 22, 3) := by decide +kernel
theorem g3d1_48 : decode prog_4_method_1_code 48 = .ok (.lconst 1, 1) := by decide +kernel
theorem g3d1_49 : decode prog_4_method_1_code 49 = .ok (.lstore_n 3, 1) := by decide +kernel
theorem g3d1_50 : decode prog_4_method_1_code 50 = .ok (.iconst 0, 1) := by decide +kernel
theorem g3d1_51 : decode prog_4_method_1_code 51 = .ok (.istore 5, 2) := by decide +kernel
theorem g3d1_53 : decode prog_4_method_1_code 53 = .ok (.iload 5, 2) := by decide +kernel
theorem g3d1_55 : decode prog_4_method_1_code 55 = .ok (.iload_n 2, 1) := by decide +kernel
theorem g3d1_56 : decode prog_4_method_1_code 56 = .ok (.if_icmp .ge 39, 3) := by decide +kernel
theorem g3d1_59 : decode prog_4_method_1_code 59 = .ok (.lload_n 3, 1) := by decide +kernel
theorem g3d1_60 : decode prog_4_method_1_code 60 = .ok (.ldc2_w 26, 3) := by decide +kernel
theorem g3d1_63 : decode prog_4_method_1_code 63 = .ok (.iload_n 1, 1) := by decide +kernel
theorem g3d1_64 : decode prog_4_method_1_code 64 = .ok (.i2l, 1) := by decide +kernel
theorem g3d1_65 : decode prog_4_method_1_code 65 = .ok (.ldiv, 1) := by decide +kernel
theorem g3d1_66 : decode prog_4_method_1_code 66 = .ok (.lcmp, 1) := by decide +kernel
theorem g3d1_67 : decode prog_4_method_1_code 67 = .ok (.ifCond .le 9, 3) := by decide +kernel
theorem g3d1_76 : decode prog_4_method_1_code 76 = .ok (.aload_n 0, 1) := by decide +kernel
theorem g3d1_77 : decode prog_4_method_1_code 77 = .ok (.getfield 22, 3) := by decide +kernel
theorem g3d1_80 : decode prog_4_method_1_code 80 = .ok (.iload 5, 2) := by decide +kernel
theorem g3d1_82 : decode prog_4_method_1_code 82 = .ok (.lload_n 3, 1) := by decide +kernel
theorem g3d1_83 : decode prog_4_method_1_code 83 = .ok (.lastore, 1) := by decide +kernel
theorem g3d1_84 : decode prog_4_method_1_code 84 = .ok (.lload_n 3, 1) := by decide +kernel
theorem g3d1_85 : decode prog_4_method_1_code 85 = .ok (.iload_n 1, 1) := by decide +kernel
theorem g3d1_86 : decode prog_4_method_1_code 86 = .ok (.i2l, 1) := by decide +kernel
theorem g3d1_87 : decode prog_4_method_1_code 87 = .ok (.lmul, 1) := by decide +kernel
theorem g3d1_88 : decode prog_4_method_1_code 88 = .ok (.lstore_n 3, 1) := by decide +kernel
theorem g3d1_89 : decode prog_4_method_1_code 89 = .ok (.iinc 5 1, 3) := by decide +kernel
theorem g3d1_92 : decode prog_4_method_1_code 92 = .ok (.goto (-39), 3) := by decide +kernel
theorem g3d1_95 : decode prog_4_method_1_code 95 = .ok (.aload_n 0, 1) := by decide +kernel
theorem g3d1_96 : decode prog_4_method_1_code 96 = .ok (.iload_n 1, 1) := by decide +kernel
theorem g3d1_97 : decode prog_4_method_1_code 97 = .ok (.putfield 28, 3) := by decide +kernel
theorem g3d1_100 : decode prog_4_method_1_code 100 = .ok (.aload_n 0, 1) := by decide +kernel
theorem g3d1_101 : decode prog_4_method_1_code 101 = .ok (.iload_n 2, 1) := by decide +kernel
theorem g3d1_102 : decode prog_4_method_1_code 102 = .ok (.putfield 32, 3) := by decide +kernel
theorem g3d1_105 : decode prog_4_method_1_code 105 = .ok (.aload_n 0, 1) := by decide +kernel
theorem g3d1_106 : decode prog_4_method_1_code 106 = .ok (.bipush 64, 2) := by decide +kernel
theorem g3d1_108 : decode prog_4_method_1_code 108 = .ok (.lload_n 3, 1) := by decide +kernel
theorem g3d1_109 : decode prog_4_method_1_code 109 = .ok (.lconst 1, 1) := by decide +kernel
theorem g3d1_110 : decode prog_4_method_1_code 110 = .ok (.lsub, 1) := by decide +kernel
theorem g3d1_111 : decode prog_4_method_1_code 111 = .ok (.invokestatic 35, 3) := by decide +kernel
theorem g3d1_114 : decode prog_4_method_1_code 114 = .ok (.isub, 1) := by decide +kernel
theorem g3d1_115 : decode prog_4_method_1_code 115 = .ok (.putfield 41, 3) := by decide +kernel
theorem g3d1_118 : decode prog_4_method_1_code 118 = .ok (.return_, 1) := by decide +kernel
theorem g3pd1_0 : parseMethodDescriptor "(J)I" = some ⟨[.long], some .int⟩ := by decide +kernel
theorem g3pn1 : plainName "com/example/known_leaks/knownleaks/CellPacking" = true := by first | (simp [plainName, overriddenIn]; done) | decide +kernel
theorem g3ef1 (m : MethodId) (x0 : Addr) (x1 : Int32) (x2 : Int32) : entryFrame m #[(.ref x0), (.int x1), (.int x2)] 6 = mkF m 0 #[.val (.ref x0), .val (.int x1), .val (.int x2), .unset, .unset, .unset] [] := by first | (simp [entryFrame, mkF, argsToLocals, Value.category]; done) | rfl
set_option maxRecDepth 65536 in
set_option maxHeartbeats 40000000 in
theorem rm_ini3 (l : Launch) (Z : State) (a0 : Array Value) (hw : ∀ d ∈ tables_1, d.before a0 Z = true) (ws : List Jvm.Cond) (ar : Addr) (p1 : Int32)  (h0 : Heap) (n0 : Nat) (Z0 : n0 ≤ h0.size) (H0 : Exa Z h0 ar "com/example/known_leaks/knownleaks/CellPacking") (H1 : Fld Z h0 ar "com/example/known_leaks/knownleaks/CellPacking" "powers" "[J" .null) (H2 : Fld Z h0 ar "com/example/known_leaks/knownleaks/CellPacking" "modulus" "I" (.int (0 : Int32))) (H3 : Fld Z h0 ar "com/example/known_leaks/knownleaks/CellPacking" "cellsPerBlock" "I" (.int (0 : Int32))) (H4 : Fld Z h0 ar "com/example/known_leaks/knownleaks/CellPacking" "blockBits" "I" (.int (0 : Int32))) (g_ar : n0 ≤ ar) (h2 : ¬ p1 < (2 : Int32)) (hnz : (p1).toInt64 ≠ 0) (hp0 : ¬ ((144115188075855872 : Int64) / (p1).toInt64) < (1 : Int64)) (hp1 : ¬ ((144115188075855872 : Int64) / (p1).toInt64) < ((1 : Int64) * (p1).toInt64)) (hp2 : ¬ ((144115188075855872 : Int64) / (p1).toInt64) < (((1 : Int64) * (p1).toInt64) * (p1).toInt64)) :
    MetFree l (⟨"com/example/known_leaks/knownleaks/CellPacking", "<init>", "(II)V"⟩ : MethodName) (head1 (Jvm.Cond.code (⟨"com/example/known_leaks/knownleaks/CellPacking", "<init>", "(II)V"⟩ : MethodName) prog_4_method_1_code 6 none :: ws) ({ frames := 2, cells := 1, slots := 3, locals := 30 } : Room)) (fun a U => a = #[(.ref ar), (.int p1), (.int (3 : Int32))] ∧ Z.Warmed39 U.vm ∧ U.heap = h0) (fun _ _ _ _ _ => True) (fun _ U o U' => ∃ v L, o = .returned v ∧ Q_ini3 Z ar p1 h0 n0 v U'.heap L ∧ FrameEnd U o U' L ({ frames := 2, cells := 1, slots := 3, locals := 30 } : Room).cells ({ frames := 2, cells := 1, slots := 3, locals := 30 } : Room).slots) := by
  refine MetFree.of_bodySF (plainFor_of_name g3pn1) hisR ?_
  intro p e s m args below meth c s₁ Bd hml0 hP hK
  obtain ⟨rfl, hZ, hh⟩ := hP
  have hx := Bd.exec
  have hby := Bd.bytes
  have hret := Bd.returns
  have hlk := Bd.notSynchronized
  have hml : c.maxLocals = 6 := hml0
  have hown : s.vm.findClass "com/example/known_leaks/knownleaks/CellPacking" = some m.cls := findClass_of_methodNamed Bd.named
  have hnm := (name_of_methodNamed Bd.named Bd.method).1
  have X0 : Stand p l e ({ frames := 2, cells := 1, slots := 3, locals := 30 } : Room) s m #[(.ref ar), (.int p1), (.int (3 : Int32))] below meth c s₁ [] 0 0 := Stand.of_body Bd
  have e0 : s₁.heap = h0 := by rw [← hh, Bd.state]; rfl
  have N0 := Fr.nil n0
  show Wp p e below (fun o s₂ => ∃ v L, o = .returned v ∧ Q_ini3 Z ar p1 h0 n0 v s₂.heap L ∧ FrameEnd s o s₂ L ({ frames := 2, cells := 1, slots := 3, locals := 30 } : Room).cells ({ frames := 2, cells := 1, slots := 3, locals := 30 } : Room).slots) _
  refine Wp.back (U' := (s₁.setTop (mkF m 0 #[.val (.ref ar), .val (.int p1), .val (.int (3 : Int32)), .unset, .unset, .unset] []))) (fun t k => castTop (g3ef1 m ar p1 (3 : Int32)) k) ?_
  refine Wp.back (U' := (s₁.setTop (mkF m 1 #[.val (.ref ar), .val (.int p1), .val (.int (3 : Int32)), .unset, .unset, .unset] [(.ref ar)]))) (fun t k => XS.aloadN X0.here hx rfl (hb hby g3d1_0) rfl rfl k) ?_
  obtain ⟨T1, X1, e1, st1⟩ := initO X0 hx hZ hown (hw _ (List.mem_of_getElem? (i := 8) rfl)) (hw _ (List.mem_of_getElem? (i := 9) rfl)) (hw _ (List.mem_of_getElem? (i := 10) rfl)) e0 (g := (mkF m 1 #[.val (.ref ar), .val (.int p1), .val (.int (3 : Int32)), .unset, .unset, .unset] [(.ref ar)])) rfl (by rw [hml]; rfl) rfl (hb hby g3d1_1) (by decide) (W := 0) (by show 2 * 0 + _ ≤ _; exact Nat.le_of_eq rfl) (by decide)
  refine Wp.back (U' := (T1.setTop (mkF m 4 #[.val (.ref ar), .val (.int p1), .val (.int (3 : Int32)), .unset, .unset, .unset] []))) st1 ?_
  refine Wp.back (U' := (T1.setTop (mkF m 43 #[.val (.ref ar), .val (.int p1), .val (.int (3 : Int32)), .unset, .unset, .unset] [(.int (3 : Int32)), (.ref ar)]))) (fun t k => XS.iloadN X1.here hx rfl (hb hby g3d1_4) rfl (XT.iconstV X1.here hx rfl (2 : Int32) (hb hby g3d1_5) (by decide) (XS.icmpNo X1.here hx rfl (hb hby g3d1_6) rfl (flt h2).1 (XS.iloadN X1.here hx rfl (hb hby g3d1_9) rfl (XT.iconstV X1.here hx rfl (1 : Int32) (hb hby g3d1_10) (by decide) (XS.icmpYes X1.here hx rfl (pc0 := 11) (pc' := 29) rfl (hb hby g3d1_11) rfl (flt (by decide)).2.1 (by decide) (by decide) (XS.iloadN X1.here hx rfl (hb hby g3d1_29) rfl (XT.bipushV X1.here hx rfl (57 : Int32) (hb hby g3d1_30) (by decide) (XS.icmpYes X1.here hx rfl (pc0 := 32) (pc' := 41) rfl (hb hby g3d1_32) rfl (flt (by decide)).2.2.2 (by decide) (by decide) (XS.aloadN X1.here hx rfl (hb hby g3d1_41) rfl rfl (XS.iloadN X1.here hx rfl (hb hby g3d1_42) rfl k))))))))))) ?_
  obtain ⟨T2, h2, k2, X2, e2, E2, A2, st2⟩ := newP X1 hx hZ (hw _ (List.mem_of_getElem? (i := 11) rfl)) e1 (g := (mkF m 43 #[.val (.ref ar), .val (.int p1), .val (.int (3 : Int32)), .unset, .unset, .unset] [(.int (3 : Int32)), (.ref ar)])) rfl (hb hby g3d1_43) rfl (by decide) (cap := 3) (by decide) (by decide) (by decide) (by decide)
  obtain ⟨b2, g2⟩ : ∃ z, z = h0.size := ⟨_, rfl⟩
  rw [← g2] at A2 st2
  have ne_ar_b2 : ar ≠ b2 := Nat.ne_of_lt (Nat.lt_of_lt_of_le H0.lt (Nat.le_of_eq g2.symm))
  have g_b2 : n0 ≤ b2 := Nat.le_trans Z0 (Nat.le_of_eq g2.symm)
  have sz_b2 : h0.size ≤ b2 := Nat.le_trans (Keep.refl h0 [ar]).1 (Nat.le_of_eq g2.symm)
  have f3_0 := Nat.le_trans Z0 E2.1
  have f3_1 := H0.ext E2
  have f3_2 := H1.ext E2
  have f3_3 := H2.ext E2
  have f3_4 := H3.ext E2
  have f3_5 := H4.ext E2
  have f3_6 := (Keep.refl h0 [ar]).ext E2
  have V2 : Arv Z h2 b2 k2 .long (3 : Int32) [(.long (0 : Int64)), (.long (0 : Int64)), (.long (0 : Int64))] (.long (0 : Int64)) := (Arv.new A2 (by decide)).pad (pad_rep [] (.long (0 : Int64)) 3)
  refine Wp.back (U' := (T2.setTop (mkF m 45 #[.val (.ref ar), .val (.int p1), .val (.int (3 : Int32)), .unset, .unset, .unset] [(.ref b2), (.ref ar)]))) st2 ?_
  obtain ⟨T4, h4, X4, e4, W4, st4⟩ := putF X2 hx hZ hown (host := "") (Or.inl (hw _ (List.mem_of_getElem? (i := 12) rfl))) Via.refl e2 f3_2 f3_1 (Or.inr ⟨(hw _ (List.mem_of_getElem? (i := 13) rfl)), rfl, hnm⟩) (hw _ (List.mem_of_getElem? (i := 3) rfl)) (ty := (.array .long)) (by decide) rfl rfl (g := (mkF m 45 #[.val (.ref ar), .val (.int p1), .val (.int (3 : Int32)), .unset, .unset, .unset] [(.ref b2), (.ref ar)])) rfl rfl (hb hby g3d1_45)
  have Fw4 := f3_2.same W4
  have f5_0 := Nat.le_trans f3_0 (Keep.of_wr W4).1
  have f5_1 := f3_1.wr W4
  have f5_2 := f3_3.other W4 (Or.inr (slot_ne (Or.inr (hw _ (List.mem_of_getElem? (i := 16) rfl))) (Or.inr (hw _ (List.mem_of_getElem? (i := 13) rfl))) (by decide) (t := .int) (t' := (.array .long)) (by decide) (by decide)))
  have f5_3 := f3_4.other W4 (Or.inr (slot_ne (Or.inr (hw _ (List.mem_of_getElem? (i := 18) rfl))) (Or.inr (hw _ (List.mem_of_getElem? (i := 13) rfl))) (by decide) (t := .int) (t' := (.array .long)) (by decide) (by decide)))
  have f5_4 := f3_5.other W4 (Or.inr (slot_ne (Or.inr (hw _ (List.mem_of_getElem? (i := 29) rfl))) (Or.inr (hw _ (List.mem_of_getElem? (i := 13) rfl))) (by decide) (t := .int) (t' := (.array .long)) (by decide) (by decide)))
  have f5_5 := f3_6.wr W4 (Or.inl (List.mem_of_getElem? (i := 0) rfl))
  have f5_6 := V2.other W4 (Ne.symm ne_ar_b2)
  have N4 := Fr.snoc X4 N0 g_ar
  refine Wp.back (U' := (T4.setTop (mkF m 48 #[.val (.ref ar), .val (.int p1), .val (.int (3 : Int32)), .unset, .unset, .unset] []))) st4 ?_
  refine Wp.back (U' := (T4.setTop (mkF m 66 #[.val (.ref ar), .val (.int p1), .val (.int (3 : Int32)), .val (.long (1 : Int64)), .second, .val (.int (0 : Int32))] [(.long ((144115188075855872 : Int64) / (p1).toInt64)), (.long (1 : Int64))]))) (fun t k => XT.lconstV X4.here hx rfl (1 : Int64) (hb hby g3d1_48) (by decide) (XS.lstoreN X4.here hx rfl (hb hby g3d1_49) rfl (l' := #[.val (.ref ar), .val (.int p1), .val (.int (3 : Int32)), .val (.long (1 : Int64)), .second, .unset]) rfl (XT.iconstV X4.here hx rfl (0 : Int32) (hb hby g3d1_50) (by decide) (XS.istore X4.here hx rfl (hb hby g3d1_51) rfl (l' := #[.val (.ref ar), .val (.int p1), .val (.int (3 : Int32)), .val (.long (1 : Int64)), .second, .val (.int (0 : Int32))]) rfl (XS.iload X4.here hx rfl (hb hby g3d1_53) rfl (XS.iloadN X4.here hx rfl (hb hby g3d1_55) rfl (XS.icmpNo X4.here hx rfl (hb hby g3d1_56) rfl (tlt (by decide)).2.1 (XS.lloadN X4.here hx rfl (hb hby g3d1_59) rfl (Jvm.Stand.ldc2J X4 hx hown (mvT hZ (hw _ (List.mem_of_getElem? (i := 14) rfl))) rfl (hb hby g3d1_60) (XS.iloadN X4.here hx rfl (hb hby g3d1_63) rfl (XS.i2l X4.here hx rfl (hb hby g3d1_64) rfl (XS.ldiv X4.here hx rfl (hb hby g3d1_65) rfl hnz k)))))))))))) ?_
  refine Wp.back (U' := (T4.setTop (mkF m 77 #[.val (.ref ar), .val (.int p1), .val (.int (3 : Int32)), .val (.long (1 : Int64)), .second, .val (.int (0 : Int32))] [(.ref ar)]))) (fun t k => XS.lcmp X4.here hx rfl (hb hby g3d1_66) rfl (XS.ifYes X4.here hx rfl (pc0 := 67) (pc' := 76) rfl (hb hby g3d1_67) rfl ((if0 _ _).trans (flt (fun q => hp0 ((lw_gt (1 : Int64) ((144115188075855872 : Int64) / (p1).toInt64)).mp q))).2.2.2) (by decide) (by decide) (XS.aloadN X4.here hx rfl (hb hby g3d1_76) rfl rfl k))) ?_
  obtain ⟨T6, X6, e6, st6⟩ := getF X4 hx hZ hown (host := "") (Or.inl (hw _ (List.mem_of_getElem? (i := 12) rfl))) Via.refl e4 Fw4 (g := (mkF m 77 #[.val (.ref ar), .val (.int p1), .val (.int (3 : Int32)), .val (.long (1 : Int64)), .second, .val (.int (0 : Int32))] [(.ref ar)])) rfl rfl (hb hby g3d1_77)
  refine Wp.back (U' := (T6.setTop (mkF m 80 #[.val (.ref ar), .val (.int p1), .val (.int (3 : Int32)), .val (.long (1 : Int64)), .second, .val (.int (0 : Int32))] [(.ref b2)]))) st6 ?_
  refine Wp.back (U' := (T6.setTop (mkF m 83 #[.val (.ref ar), .val (.int p1), .val (.int (3 : Int32)), .val (.long (1 : Int64)), .second, .val (.int (0 : Int32))] [(.long (1 : Int64)), (.int (0 : Int32)), (.ref b2)]))) (fun t k => XS.iload X6.here hx rfl (hb hby g3d1_80) rfl (XS.lloadN X6.here hx rfl (hb hby g3d1_82) rfl k)) ?_
  have vq7 := f5_6
  obtain ⟨cl7, Ar7, qa7, qs7, qn7, qh7, qg7⟩ := vq7
  have hin7 : ¬ ((0 : Int32) < 0 ∨ cl7.slots.size ≤ ((0 : Int32)).toNatClampNeg) := inb_of qs7 ⟨by decide, by decide⟩
  obtain ⟨T7, h7, X7, e7, W7, st7⟩ := stJ X6 hx hZ e6 Ar7 (j := (0 : Int32)) hin7 (g := (mkF m 83 #[.val (.ref ar), .val (.int p1), .val (.int (3 : Int32)), .val (.long (1 : Int64)), .second, .val (.int (0 : Int32))] [(.long (1 : Int64)), (.int (0 : Int32)), (.ref b2)])) rfl rfl (hb hby g3d1_83)
  have V7 : Arv Z h7 b2 k2 .long (3 : Int32) [(.long (1 : Int64)), (.long (0 : Int64)), (.long (0 : Int64))] (.long (0 : Int64)) := Arv.set Ar7 qa7 qs7 qn7 qh7 qg7 rfl W7 0 rfl (Nat.le_of_ble_eq_true rfl)
  have f8_0 := Nat.le_trans f5_0 (Keep.of_wr W7).1
  have f8_1 := f5_1.wr W7
  have f8_2 := f5_2.other W7 (Or.inl ne_ar_b2)
  have f8_3 := f5_3.other W7 (Or.inl ne_ar_b2)
  have f8_4 := f5_4.other W7 (Or.inl ne_ar_b2)
  have f8_5 := f5_5.wr W7 (Or.inr sz_b2)
  have f8_6 := Fw4.other W7 (Or.inl ne_ar_b2)
  have N7 := Fr.snoc X7 N4 g_b2
  refine Wp.back (U' := (T7.setTop (mkF m 84 #[.val (.ref ar), .val (.int p1), .val (.int (3 : Int32)), .val (.long (1 : Int64)), .second, .val (.int (0 : Int32))] []))) st7 ?_
  refine Wp.back (U' := (T7.setTop (mkF m 63 #[.val (.ref ar), .val (.int p1), .val (.int (3 : Int32)), .val (.long ((1 : Int64) * (p1).toInt64)), .second, .val (.int (1 : Int32))] [(.long (144115188075855872 : Int64)), (.long ((1 : Int64) * (p1).toInt64))]))) (fun t k => XS.lloadN X7.here hx rfl (hb hby g3d1_84) rfl (XS.iloadN X7.here hx rfl (hb hby g3d1_85) rfl (XS.i2l X7.here hx rfl (hb hby g3d1_86) rfl (XS.lmul X7.here hx rfl (hb hby g3d1_87) rfl (XS.lstoreN X7.here hx rfl (hb hby g3d1_88) rfl (l' := #[.val (.ref ar), .val (.int p1), .val (.int (3 : Int32)), .val (.long ((1 : Int64) * (p1).toInt64)), .second, .val (.int (0 : Int32))]) rfl (XT.iincV X7.here hx rfl (1 : Int32) (hb hby g3d1_89) (by decide) rfl (l' := #[.val (.ref ar), .val (.int p1), .val (.int (3 : Int32)), .val (.long ((1 : Int64) * (p1).toInt64)), .second, .val (.int (1 : Int32))]) rfl (XS.goto X7.here hx rfl (pc0 := 92) (pc' := 53) rfl (hb hby g3d1_92) (by decide) (by decide) (XS.iload X7.here hx rfl (hb hby g3d1_53) rfl (XS.iloadN X7.here hx rfl (hb hby g3d1_55) rfl (XS.icmpNo X7.here hx rfl (hb hby g3d1_56) rfl (tlt (by decide)).2.1 (XS.lloadN X7.here hx rfl (hb hby g3d1_59) rfl (Jvm.Stand.ldc2J X7 hx hown (mvT hZ (hw _ (List.mem_of_getElem? (i := 14) rfl))) rfl (hb hby g3d1_60) k)))))))))))) ?_
  refine Wp.back (U' := (T7.setTop (mkF m 77 #[.val (.ref ar), .val (.int p1), .val (.int (3 : Int32)), .val (.long ((1 : Int64) * (p1).toInt64)), .second, .val (.int (1 : Int32))] [(.ref ar)]))) (fun t k => XS.iloadN X7.here hx rfl (hb hby g3d1_63) rfl (XS.i2l X7.here hx rfl (hb hby g3d1_64) rfl (XS.ldiv X7.here hx rfl (hb hby g3d1_65) rfl hnz (XS.lcmp X7.here hx rfl (hb hby g3d1_66) rfl (XS.ifYes X7.here hx rfl (pc0 := 67) (pc' := 76) rfl (hb hby g3d1_67) rfl ((if0 _ _).trans (flt (fun q => hp1 ((lw_gt ((1 : Int64) * (p1).toInt64) ((144115188075855872 : Int64) / (p1).toInt64)).mp q))).2.2.2) (by decide) (by decide) (XS.aloadN X7.here hx rfl (hb hby g3d1_76) rfl rfl k)))))) ?_
  obtain ⟨T9, X9, e9, st9⟩ := getF X7 hx hZ hown (host := "") (Or.inl (hw _ (List.mem_of_getElem? (i := 12) rfl))) Via.refl e7 f8_6 (g := (mkF m 77 #[.val (.ref ar), .val (.int p1), .val (.int (3 : Int32)), .val (.long ((1 : Int64) * (p1).toInt64)), .second, .val (.int (1 : Int32))] [(.ref ar)])) rfl rfl (hb hby g3d1_77)
  refine Wp.back (U' := (T9.setTop (mkF m 80 #[.val (.ref ar), .val (.int p1), .val (.int (3 : Int32)), .val (.long ((1 : Int64) * (p1).toInt64)), .second, .val (.int (1 : Int32))] [(.ref b2)]))) st9 ?_
  refine Wp.back (U' := (T9.setTop (mkF m 83 #[.val (.ref ar), .val (.int p1), .val (.int (3 : Int32)), .val (.long ((1 : Int64) * (p1).toInt64)), .second, .val (.int (1 : Int32))] [(.long ((1 : Int64) * (p1).toInt64)), (.int (1 : Int32)), (.ref b2)]))) (fun t k => XS.iload X9.here hx rfl (hb hby g3d1_80) rfl (XS.lloadN X9.here hx rfl (hb hby g3d1_82) rfl k)) ?_
  have vq10 := V7
  obtain ⟨cl10, Ar10, qa10, qs10, qn10, qh10, qg10⟩ := vq10
  have hin10 : ¬ ((1 : Int32) < 0 ∨ cl10.slots.size ≤ ((1 : Int32)).toNatClampNeg) := inb_of qs10 ⟨by decide, by decide⟩
  obtain ⟨T10, h10, X10, e10, W10, st10⟩ := stJ X9 hx hZ e9 Ar10 (j := (1 : Int32)) hin10 (g := (mkF m 83 #[.val (.ref ar), .val (.int p1), .val (.int (3 : Int32)), .val (.long ((1 : Int64) * (p1).toInt64)), .second, .val (.int (1 : Int32))] [(.long ((1 : Int64) * (p1).toInt64)), (.int (1 : Int32)), (.ref b2)])) rfl rfl (hb hby g3d1_83)
  have V10 : Arv Z h10 b2 k2 .long (3 : Int32) [(.long (1 : Int64)), (.long ((1 : Int64) * (p1).toInt64)), (.long (0 : Int64))] (.long (0 : Int64)) := Arv.set Ar10 qa10 qs10 qn10 qh10 qg10 rfl W10 1 rfl (Nat.le_of_ble_eq_true rfl)
  have f11_0 := Nat.le_trans f8_0 (Keep.of_wr W10).1
  have f11_1 := f8_1.wr W10
  have f11_2 := f8_2.other W10 (Or.inl ne_ar_b2)
  have f11_3 := f8_3.other W10 (Or.inl ne_ar_b2)
  have f11_4 := f8_4.other W10 (Or.inl ne_ar_b2)
  have f11_5 := f8_5.wr W10 (Or.inr sz_b2)
  have f11_6 := f8_6.other W10 (Or.inl ne_ar_b2)
  have N10 := Fr.snoc X10 N7 g_b2
  refine Wp.back (U' := (T10.setTop (mkF m 84 #[.val (.ref ar), .val (.int p1), .val (.int (3 : Int32)), .val (.long ((1 : Int64) * (p1).toInt64)), .second, .val (.int (1 : Int32))] []))) st10 ?_
  refine Wp.back (U' := (T10.setTop (mkF m 63 #[.val (.ref ar), .val (.int p1), .val (.int (3 : Int32)), .val (.long (((1 : Int64) * (p1).toInt64) * (p1).toInt64)), .second, .val (.int (2 : Int32))] [(.long (144115188075855872 : Int64)), (.long (((1 : Int64) * (p1).toInt64) * (p1).toInt64))]))) (fun t k => XS.lloadN X10.here hx rfl (hb hby g3d1_84) rfl (XS.iloadN X10.here hx rfl (hb hby g3d1_85) rfl (XS.i2l X10.here hx rfl (hb hby g3d1_86) rfl (XS.lmul X10.here hx rfl (hb hby g3d1_87) rfl (XS.lstoreN X10.here hx rfl (hb hby g3d1_88) rfl (l' := #[.val (.ref ar), .val (.int p1), .val (.int (3 : Int32)), .val (.long (((1 : Int64) * (p1).toInt64) * (p1).toInt64)), .second, .val (.int (1 : Int32))]) rfl (XT.iincV X10.here hx rfl (1 : Int32) (hb hby g3d1_89) (by decide) rfl (l' := #[.val (.ref ar), .val (.int p1), .val (.int (3 : Int32)), .val (.long (((1 : Int64) * (p1).toInt64) * (p1).toInt64)), .second, .val (.int (2 : Int32))]) rfl (XS.goto X10.here hx rfl (pc0 := 92) (pc' := 53) rfl (hb hby g3d1_92) (by decide) (by decide) (XS.iload X10.here hx rfl (hb hby g3d1_53) rfl (XS.iloadN X10.here hx rfl (hb hby g3d1_55) rfl (XS.icmpNo X10.here hx rfl (hb hby g3d1_56) rfl (tlt (by decide)).2.1 (XS.lloadN X10.here hx rfl (hb hby g3d1_59) rfl (Jvm.Stand.ldc2J X10 hx hown (mvT hZ (hw _ (List.mem_of_getElem? (i := 14) rfl))) rfl (hb hby g3d1_60) k)))))))))))) ?_
  refine Wp.back (U' := (T10.setTop (mkF m 77 #[.val (.ref ar), .val (.int p1), .val (.int (3 : Int32)), .val (.long (((1 : Int64) * (p1).toInt64) * (p1).toInt64)), .second, .val (.int (2 : Int32))] [(.ref ar)]))) (fun t k => XS.iloadN X10.here hx rfl (hb hby g3d1_63) rfl (XS.i2l X10.here hx rfl (hb hby g3d1_64) rfl (XS.ldiv X10.here hx rfl (hb hby g3d1_65) rfl hnz (XS.lcmp X10.here hx rfl (hb hby g3d1_66) rfl (XS.ifYes X10.here hx rfl (pc0 := 67) (pc' := 76) rfl (hb hby g3d1_67) rfl ((if0 _ _).trans (flt (fun q => hp2 ((lw_gt (((1 : Int64) * (p1).toInt64) * (p1).toInt64) ((144115188075855872 : Int64) / (p1).toInt64)).mp q))).2.2.2) (by decide) (by decide) (XS.aloadN X10.here hx rfl (hb hby g3d1_76) rfl rfl k)))))) ?_
  obtain ⟨T12, X12, e12, st12⟩ := getF X10 hx hZ hown (host := "") (Or.inl (hw _ (List.mem_of_getElem? (i := 12) rfl))) Via.refl e10 f11_6 (g := (mkF m 77 #[.val (.ref ar), .val (.int p1), .val (.int (3 : Int32)), .val (.long (((1 : Int64) * (p1).toInt64) * (p1).toInt64)), .second, .val (.int (2 : Int32))] [(.ref ar)])) rfl rfl (hb hby g3d1_77)
  refine Wp.back (U' := (T12.setTop (mkF m 80 #[.val (.ref ar), .val (.int p1), .val (.int (3 : Int32)), .val (.long (((1 : Int64) * (p1).toInt64) * (p1).toInt64)), .second, .val (.int (2 : Int32))] [(.ref b2)]))) st12 ?_
  refine Wp.back (U' := (T12.setTop (mkF m 83 #[.val (.ref ar), .val (.int p1), .val (.int (3 : Int32)), .val (.long (((1 : Int64) * (p1).toInt64) * (p1).toInt64)), .second, .val (.int (2 : Int32))] [(.long (((1 : Int64) * (p1).toInt64) * (p1).toInt64)), (.int (2 : Int32)), (.ref b2)]))) (fun t k => XS.iload X12.here hx rfl (hb hby g3d1_80) rfl (XS.lloadN X12.here hx rfl (hb hby g3d1_82) rfl k)) ?_
  have vq13 := V10
  obtain ⟨cl13, Ar13, qa13, qs13, qn13, qh13, qg13⟩ := vq13
  have hin13 : ¬ ((2 : Int32) < 0 ∨ cl13.slots.size ≤ ((2 : Int32)).toNatClampNeg) := inb_of qs13 ⟨by decide, by decide⟩
  obtain ⟨T13, h13, X13, e13, W13, st13⟩ := stJ X12 hx hZ e12 Ar13 (j := (2 : Int32)) hin13 (g := (mkF m 83 #[.val (.ref ar), .val (.int p1), .val (.int (3 : Int32)), .val (.long (((1 : Int64) * (p1).toInt64) * (p1).toInt64)), .second, .val (.int (2 : Int32))] [(.long (((1 : Int64) * (p1).toInt64) * (p1).toInt64)), (.int (2 : Int32)), (.ref b2)])) rfl rfl (hb hby g3d1_83)
  have V13 : Arv Z h13 b2 k2 .long (3 : Int32) [(.long (1 : Int64)), (.long ((1 : Int64) * (p1).toInt64)), (.long (((1 : Int64) * (p1).toInt64) * (p1).toInt64))] (.long (0 : Int64)) := Arv.set Ar13 qa13 qs13 qn13 qh13 qg13 rfl W13 2 rfl (Nat.le_of_ble_eq_true rfl)
  have f14_0 := Nat.le_trans f11_0 (Keep.of_wr W13).1
  have f14_1 := f11_1.wr W13
  have f14_2 := f11_2.other W13 (Or.inl ne_ar_b2)
  have f14_3 := f11_3.other W13 (Or.inl ne_ar_b2)
  have f14_4 := f11_4.other W13 (Or.inl ne_ar_b2)
  have f14_5 := f11_5.wr W13 (Or.inr sz_b2)
  have f14_6 := f11_6.other W13 (Or.inl ne_ar_b2)
  have N13 := Fr.snoc X13 N10 g_b2
  refine Wp.back (U' := (T13.setTop (mkF m 84 #[.val (.ref ar), .val (.int p1), .val (.int (3 : Int32)), .val (.long (((1 : Int64) * (p1).toInt64) * (p1).toInt64)), .second, .val (.int (2 : Int32))] []))) st13 ?_
  refine Wp.back (U' := (T13.setTop (mkF m 97 #[.val (.ref ar), .val (.int p1), .val (.int (3 : Int32)), .val (.long ((((1 : Int64) * (p1).toInt64) * (p1).toInt64) * (p1).toInt64)), .second, .val (.int (3 : Int32))] [(.int p1), (.ref ar)]))) (fun t k => XS.lloadN X13.here hx rfl (hb hby g3d1_84) rfl (XS.iloadN X13.here hx rfl (hb hby g3d1_85) rfl (XS.i2l X13.here hx rfl (hb hby g3d1_86) rfl (XS.lmul X13.here hx rfl (hb hby g3d1_87) rfl (XS.lstoreN X13.here hx rfl (hb hby g3d1_88) rfl (l' := #[.val (.ref ar), .val (.int p1), .val (.int (3 : Int32)), .val (.long ((((1 : Int64) * (p1).toInt64) * (p1).toInt64) * (p1).toInt64)), .second, .val (.int (2 : Int32))]) rfl (XT.iincV X13.here hx rfl (1 : Int32) (hb hby g3d1_89) (by decide) rfl (l' := #[.val (.ref ar), .val (.int p1), .val (.int (3 : Int32)), .val (.long ((((1 : Int64) * (p1).toInt64) * (p1).toInt64) * (p1).toInt64)), .second, .val (.int (3 : Int32))]) rfl (XS.goto X13.here hx rfl (pc0 := 92) (pc' := 53) rfl (hb hby g3d1_92) (by decide) (by decide) (XS.iload X13.here hx rfl (hb hby g3d1_53) rfl (XS.iloadN X13.here hx rfl (hb hby g3d1_55) rfl (XS.icmpYes X13.here hx rfl (pc0 := 56) (pc' := 95) rfl (hb hby g3d1_56) rfl (flt (by decide)).2.1 (by decide) (by decide) (XS.aloadN X13.here hx rfl (hb hby g3d1_95) rfl rfl (XS.iloadN X13.here hx rfl (hb hby g3d1_96) rfl k)))))))))))) ?_
  obtain ⟨T15, h15, X15, e15, W15, st15⟩ := putF X13 hx hZ hown (host := "") (Or.inl (hw _ (List.mem_of_getElem? (i := 15) rfl))) Via.refl e13 f14_2 f14_1 (Or.inr ⟨(hw _ (List.mem_of_getElem? (i := 16) rfl)), rfl, hnm⟩) (hw _ (List.mem_of_getElem? (i := 3) rfl)) (ty := .int) (by decide) rfl rfl (g := (mkF m 97 #[.val (.ref ar), .val (.int p1), .val (.int (3 : Int32)), .val (.long ((((1 : Int64) * (p1).toInt64) * (p1).toInt64) * (p1).toInt64)), .second, .val (.int (3 : Int32))] [(.int p1), (.ref ar)])) rfl rfl (hb hby g3d1_97)
  have Fw15 := f14_2.same W15
  have f16_0 := Nat.le_trans f14_0 (Keep.of_wr W15).1
  have f16_1 := f14_1.wr W15
  have f16_2 := f14_3.other W15 (Or.inr (slot_ne (Or.inr (hw _ (List.mem_of_getElem? (i := 18) rfl))) (Or.inr (hw _ (List.mem_of_getElem? (i := 16) rfl))) (by decide) (t := .int) (t' := .int) (by decide) (by decide)))
  have f16_3 := f14_4.other W15 (Or.inr (slot_ne (Or.inr (hw _ (List.mem_of_getElem? (i := 29) rfl))) (Or.inr (hw _ (List.mem_of_getElem? (i := 16) rfl))) (by decide) (t := .int) (t' := .int) (by decide) (by decide)))
  have f16_4 := f14_5.wr W15 (Or.inl (List.mem_of_getElem? (i := 0) rfl))
  have f16_5 := f14_6.other W15 (Or.inr (slot_ne (Or.inr (hw _ (List.mem_of_getElem? (i := 13) rfl))) (Or.inr (hw _ (List.mem_of_getElem? (i := 16) rfl))) (by decide) (t := (.array .long)) (t' := .int) (by decide) (by decide)))
  have f16_6 := V13.other W15 (Ne.symm ne_ar_b2)
  have N15 := Fr.snoc X15 N13 g_ar
  refine Wp.back (U' := (T15.setTop (mkF m 100 #[.val (.ref ar), .val (.int p1), .val (.int (3 : Int32)), .val (.long ((((1 : Int64) * (p1).toInt64) * (p1).toInt64) * (p1).toInt64)), .second, .val (.int (3 : Int32))] []))) st15 ?_
  refine Wp.back (U' := (T15.setTop (mkF m 102 #[.val (.ref ar), .val (.int p1), .val (.int (3 : Int32)), .val (.long ((((1 : Int64) * (p1).toInt64) * (p1).toInt64) * (p1).toInt64)), .second, .val (.int (3 : Int32))] [(.int (3 : Int32)), (.ref ar)]))) (fun t k => XS.aloadN X15.here hx rfl (hb hby g3d1_100) rfl rfl (XS.iloadN X15.here hx rfl (hb hby g3d1_101) rfl k)) ?_
  obtain ⟨T17, h17, X17, e17, W17, st17⟩ := putF X15 hx hZ hown (host := "") (Or.inl (hw _ (List.mem_of_getElem? (i := 17) rfl))) Via.refl e15 f16_2 f16_1 (Or.inr ⟨(hw _ (List.mem_of_getElem? (i := 18) rfl)), rfl, hnm⟩) (hw _ (List.mem_of_getElem? (i := 3) rfl)) (ty := .int) (by decide) rfl rfl (g := (mkF m 102 #[.val (.ref ar), .val (.int p1), .val (.int (3 : Int32)), .val (.long ((((1 : Int64) * (p1).toInt64) * (p1).toInt64) * (p1).toInt64)), .second, .val (.int (3 : Int32))] [(.int (3 : Int32)), (.ref ar)])) rfl rfl (hb hby g3d1_102)
  have Fw17 := f16_2.same W17
  have f18_0 := Nat.le_trans f16_0 (Keep.of_wr W17).1
  have f18_1 := f16_1.wr W17
  have f18_2 := f16_3.other W17 (Or.inr (slot_ne (Or.inr (hw _ (List.mem_of_getElem? (i := 29) rfl))) (Or.inr (hw _ (List.mem_of_getElem? (i := 18) rfl))) (by decide) (t := .int) (t' := .int) (by decide) (by decide)))
  have f18_3 := f16_4.wr W17 (Or.inl (List.mem_of_getElem? (i := 0) rfl))
  have f18_4 := f16_5.other W17 (Or.inr (slot_ne (Or.inr (hw _ (List.mem_of_getElem? (i := 13) rfl))) (Or.inr (hw _ (List.mem_of_getElem? (i := 18) rfl))) (by decide) (t := (.array .long)) (t' := .int) (by decide) (by decide)))
  have f18_5 := f16_6.other W17 (Ne.symm ne_ar_b2)
  have f18_6 := Fw15.other W17 (Or.inr (slot_ne (Or.inr (hw _ (List.mem_of_getElem? (i := 16) rfl))) (Or.inr (hw _ (List.mem_of_getElem? (i := 18) rfl))) (by decide) (t := .int) (t' := .int) (by decide) (by decide)))
  have N17 := Fr.snoc X17 N15 g_ar
  refine Wp.back (U' := (T17.setTop (mkF m 105 #[.val (.ref ar), .val (.int p1), .val (.int (3 : Int32)), .val (.long ((((1 : Int64) * (p1).toInt64) * (p1).toInt64) * (p1).toInt64)), .second, .val (.int (3 : Int32))] []))) st17 ?_
  refine Wp.back (U' := (T17.setTop (mkF m 111 #[.val (.ref ar), .val (.int p1), .val (.int (3 : Int32)), .val (.long ((((1 : Int64) * (p1).toInt64) * (p1).toInt64) * (p1).toInt64)), .second, .val (.int (3 : Int32))] [(.long (((((1 : Int64) * (p1).toInt64) * (p1).toInt64) * (p1).toInt64) - (1 : Int64))), (.int (64 : Int32)), (.ref ar)]))) (fun t k => XS.aloadN X17.here hx rfl (hb hby g3d1_105) rfl rfl (XT.bipushV X17.here hx rfl (64 : Int32) (hb hby g3d1_106) (by decide) (XS.lloadN X17.here hx rfl (hb hby g3d1_108) rfl (XT.lconstV X17.here hx rfl (1 : Int64) (hb hby g3d1_109) (by decide) (XS.lsub X17.here hx rfl (hb hby g3d1_110) rfl k))))) ?_
  obtain ⟨_, _, ⟨T19, L19, k19, n19⟩, -, X19, ⟨Lc19, hQ19, l19, y19, z19⟩, st19⟩ := Jvm.LawKit.callS X17 hx (y := (⟨"java/lang/Long", "numberOfLeadingZeros", "(J)I"⟩ : MethodName)) hown (mvT hZ (hw _ (List.mem_of_getElem? (i := 19) rfl))) (mvT hZ (hw _ (List.mem_of_getElem? (i := 20) rfl))) (mvT hZ (hw _ (List.mem_of_getElem? (i := 21) rfl))) (mvT hZ (hw _ (List.mem_of_getElem? (i := 22) rfl))) (by decide) (backOf (W := 2) (rm_f_lnz l Z a0 hw [] (((((1 : Int64) * (p1).toInt64) * (p1).toInt64) * (p1).toInt64) - (1 : Int64)) h17 n0 f18_0 ) hZ (hw _ (List.mem_of_getElem? (i := 22) rfl)) (hw _ (List.mem_of_getElem? (i := 21) rfl)) (by decide) (by decide)) (g := (mkF m 111 #[.val (.ref ar), .val (.int p1), .val (.int (3 : Int32)), .val (.long ((((1 : Int64) * (p1).toInt64) * (p1).toInt64) * (p1).toInt64)), .second, .val (.int (3 : Int32))] [(.long (((((1 : Int64) * (p1).toInt64) * (p1).toInt64) * (p1).toInt64) - (1 : Int64))), (.int (64 : Int32)), (.ref ar)])) rfl (by rw [hml]; rfl) (argsL := [(.long (((((1 : Int64) * (p1).toInt64) * (p1).toInt64) * (p1).toInt64) - (1 : Int64)))]) (rest := [(.int (64 : Int32)), (.ref ar)]) (lenOf g3pd1_0 rfl) rfl (by show 2 * 0 + _ ≤ _; exact Nat.le_of_eq rfl) (hb hby g3d1_111) (fun _ _ => ⟨rfl, e17, (by decide : 1 + 0 ≤ _), (by decide : 3 + 0 ≤ _)⟩)
  dsimp only [Pt.U, Pt.locs, Pt.cells, Pt.slots] at X19 l19 y19 z19 st19 hQ19
  subst l19 y19 z19
  obtain ⟨rfl, N19q, e19⟩ := hQ19
  have N19 := Fr.app N17 N19q
  refine Wp.back (U' := (T19.setTop (mkF m 114 #[.val (.ref ar), .val (.int p1), .val (.int (3 : Int32)), .val (.long ((((1 : Int64) * (p1).toInt64) * (p1).toInt64) * (p1).toInt64)), .second, .val (.int (3 : Int32))] [(.int (f_lnz (((((1 : Int64) * (p1).toInt64) * (p1).toInt64) * (p1).toInt64) - (1 : Int64)))), (.int (64 : Int32)), (.ref ar)]))) st19 ?_
  refine Wp.back (U' := (T19.setTop (mkF m 115 #[.val (.ref ar), .val (.int p1), .val (.int (3 : Int32)), .val (.long ((((1 : Int64) * (p1).toInt64) * (p1).toInt64) * (p1).toInt64)), .second, .val (.int (3 : Int32))] [(.int ((64 : Int32) - (f_lnz (((((1 : Int64) * (p1).toInt64) * (p1).toInt64) * (p1).toInt64) - (1 : Int64))))), (.ref ar)]))) (fun t k => XS.isub X19.here hx rfl (hb hby g3d1_114) rfl k) ?_
  obtain ⟨T20, h20, X20, e20, W20, st20⟩ := putF X19 hx hZ hown (host := "") (Or.inl (hw _ (List.mem_of_getElem? (i := 28) rfl))) Via.refl e19 f18_2 f18_1 (Or.inr ⟨(hw _ (List.mem_of_getElem? (i := 29) rfl)), rfl, hnm⟩) (hw _ (List.mem_of_getElem? (i := 3) rfl)) (ty := .int) (by decide) rfl rfl (g := (mkF m 115 #[.val (.ref ar), .val (.int p1), .val (.int (3 : Int32)), .val (.long ((((1 : Int64) * (p1).toInt64) * (p1).toInt64) * (p1).toInt64)), .second, .val (.int (3 : Int32))] [(.int ((64 : Int32) - (f_lnz (((((1 : Int64) * (p1).toInt64) * (p1).toInt64) * (p1).toInt64) - (1 : Int64))))), (.ref ar)])) rfl rfl (hb hby g3d1_115)
  have Fw20 := f18_2.same W20
  have f21_0 := Nat.le_trans f18_0 (Keep.of_wr W20).1
  have f21_1 := f18_1.wr W20
  have f21_2 := f18_3.wr W20 (Or.inl (List.mem_of_getElem? (i := 0) rfl))
  have f21_3 := f18_4.other W20 (Or.inr (slot_ne (Or.inr (hw _ (List.mem_of_getElem? (i := 13) rfl))) (Or.inr (hw _ (List.mem_of_getElem? (i := 29) rfl))) (by decide) (t := (.array .long)) (t' := .int) (by decide) (by decide)))
  have f21_4 := f18_5.other W20 (Ne.symm ne_ar_b2)
  have f21_5 := f18_6.other W20 (Or.inr (slot_ne (Or.inr (hw _ (List.mem_of_getElem? (i := 16) rfl))) (Or.inr (hw _ (List.mem_of_getElem? (i := 29) rfl))) (by decide) (t := .int) (t' := .int) (by decide) (by decide)))
  have f21_6 := Fw17.other W20 (Or.inr (slot_ne (Or.inr (hw _ (List.mem_of_getElem? (i := 18) rfl))) (Or.inr (hw _ (List.mem_of_getElem? (i := 29) rfl))) (by decide) (t := .int) (t' := .int) (by decide) (by decide)))
  have N20 := Fr.snoc X20 N19 g_ar
  refine Wp.back (U' := (T20.setTop (mkF m 118 #[.val (.ref ar), .val (.int p1), .val (.int (3 : Int32)), .val (.long ((((1 : Int64) * (p1).toInt64) * (p1).toInt64) * (p1).toInt64)), .second, .val (.int (3 : Int32))] []))) st20 ?_
  obtain ⟨fs, hr, hrun, hended, hW, hsame⟩ := X20.leave (v := none) (fun _ => rfl)
  refine Wp.done (X20.returnOut hx hret (hb hby g3d1_118) hr) hrun hended ⟨_, _, rfl, ?_, ⟨_, rfl⟩, hW, hsame.mono (by decide) (by decide)⟩
  show Q_ini3 Z ar p1 h0 n0 _ T20.heap _
  rw [e20]
  exact ⟨rfl, N20, f21_2, f21_1, f21_6, Fw20⟩
def Q_ini4 (Z : State) (ar : Addr) (p1 : Int32)  (h0 : Heap) (n0 : Nat) (v : Option Value) (h : Heap) (L : List Loc) : Prop := v = none ∧ Fr n0 L ∧ Keep h0 h [ar] ∧ Exa Z h ar "com/example/known_leaks/knownleaks/CellPacking" ∧ Fld Z h ar "com/example/known_leaks/knownleaks/CellPacking" "cellsPerBlock" "I" (.int (4 : Int32)) ∧ Fld Z h ar "com/example/known_leaks/knownleaks/CellPacking" "blockBits" "I" (.int ((64 : Int32) - (f_lnz ((((((1 : Int64) * (p1).toInt64) * (p1).toInt64) * (p1).toInt64) * (p1).toInt64) - (1 : Int64)))))
theorem g4d1_0 : decode prog_4_method_1_code 0 = .ok (.aload_n 0, 1) := by decide +kernel
theorem g4d1_1 : decode prog_4_method_1_code 1 = .ok (.invokespecial 1, 3) := by decide +kernel
theorem g4d1_4 : decode prog_4_method_1_code 4 = .ok (.iload_n 1, 1) := by decide +kernel
theorem g4d1_5 : decode prog_4_method_1_code 5 = .ok (.iconst 2, 1) := by decide +kernel
theorem g4d1_6 : decode prog_4_method_1_code 6 = .ok (.if_icmp .lt 8, 3) := by decide +kernel
theorem g4d1_9 : decode prog_4_method_1_code 9 = .ok (.iload_n 2, 1) := by decide +kernel
theorem g4d1_10 : decode prog_4_method_1_code 10 = .ok (.iconst 1, 1) := by decide +kernel
theorem g4d1_11 : decode prog_4_method_1_code 11 = .ok (.if_icmp .ge 18, 3) := by decide +kernel
theorem g4d1_29 : decode prog_4_method_1_code 29 = .ok (.iload_n 2, 1) := by decide +kernel
theorem g4d1_30 : decode prog_4_method_1_code 30 = .ok (.bipush 57, 2) := by decide +kernel
theorem g4d1_32 : decode prog_4_method_1_code 32 = .ok (.if_icmp .le 9, 3) := by decide +kernel
theorem g4d1_41 : decode prog_4_method_1_code 41 = .ok (.aload_n 0, 1) := by decide +kernel
theorem g4d1_42 : decode prog_4_method_1_code 42 = .ok (.iload_n 2, 1) := by decide +kernel
theorem g4d1_43 : decode prog_4_method_1_code 43 = .ok (.newarray .long, 2) := by decide +kernel
theorem g4d1_45 : decode prog_4_method_1_code 45 = .ok (.putfield 22, 3) := by decide +kernel
theorem g4d1_48 : decode prog_4_method_1_code 48 = .ok (.lconst 1, 1) := by decide +kernel
theorem g4d1_49 : decode prog_4_method_1_code 49 = .ok (.lstore_n 3, 1) := by decide +kernel
theorem g4d1_50 : decode prog_4_method_1_code 50 = .ok (.iconst 0, 1) := by decide +kernel
theorem g4d1_51 : decode prog_4_method_1_code 51 = .ok (.istore 5, 2) := by decide +kernel
theorem g4d1_53 : decode prog_4_method_1_code 53 = .ok (.iload 5, 2) := by decide +kernel
theorem g4d1_55 : decode prog_4_method_1_code 55 = .ok (.iload_n 2, 1) := by decide +kernel
theorem g4d1_56 : decode prog_4_method_1_code 56 = .ok (.if_icmp .ge 39, 3) := by decide +kernel
theorem g4d1_59 : decode prog_4_method_1_code 59 = .ok (.lload_n 3, 1) := by decide +kernel
theorem g4d1_60 : decode prog_4_method_1_code 60 = .ok (.ldc2_w 26, 3) := by decide +kernel
theorem g4d1_63 : decode prog_4_method_1_code 63 = .ok (.iload_n 1, 1) := by decide +kernel
theorem g4d1_64 : decode prog_4_method_1_code 64 = .ok (.i2l, 1) := by decide +kernel
theorem g4d1_65 : decode prog_4_method_1_code 65 = .ok (.ldiv, 1) := by decide +kernel
theorem g4d1_66 : decode prog_4_method_1_code 66 = .ok (.lcmp, 1) := by decide +kernel
theorem g4d1_67 : decode prog_4_method_1_code 67 = .ok (.ifCond .le 9, 3) := by decide +kernel
theorem g4d1_76 : decode prog_4_method_1_code 76 = .ok (.aload_n 0, 1) := by decide +kernel
theorem g4d1_77 : decode prog_4_method_1_code 77 = .ok (.getfield 22, 3) := by decide +kernel
theorem g4d1_80 : decode prog_4_method_1_code 80 = .ok (.iload 5, 2) := by decide +kernel
theorem g4d1_82 : decode prog_4_method_1_code 82 = .ok (.lload_n 3, 1) := by decide +kernel
theorem g4d1_83 : decode prog_4_method_1_code 83 = .ok (.lastore, 1) := by decide +kernel
theorem g4d1_84 : decode prog_4_method_1_code 84 = .ok (.lload_n 3, 1) := by decide +kernel
theorem g4d1_85 : decode prog_4_method_1_code 85 = .ok (.iload_n 1, 1) := by decide +kernel
theorem g4d1_86 : decode prog_4_method_1_code 86 = .ok (.i2l, 1) := by decide +kernel
theorem g4d1_87 : decode prog_4_method_1_code 87 = .ok (.lmul, 1) := by decide +kernel
theorem g4d1_88 : decode prog_4_method_1_code 88 = .ok (.lstore_n 3, 1) := by decide +kernel
theorem g4d1_89 : decode prog_4_method_1_code 89 = .ok (.iinc 5 1, 3) := by decide +kernel
theorem g4d1_92 : decode prog_4_method_1_code 92 = .ok (.goto (-39), 3) := by decide +kernel
theorem g4d1_95 : decode prog_4_method_1_code 95 = .ok (.aload_n 0, 1) := by decide +kernel
theorem g4d1_96 : decode prog_4_method_1_code 96 = .ok (.iload_n 1, 1) := by decide +kernel
theorem g4d1_97 : decode prog_4_method_1_code 97 = .ok (.putfield 28, 3) := by decide +kernel
theorem g4d1_100 : decode prog_4_method_1_code 100 = .ok (.aload_n 0, 1) := by decide +kernel
theorem g4d1_101 : decode prog_4_method_1_code 101 = .ok (.iload_n 2, 1) := by decide +kernel
theorem g4d1_102 : decode prog_4_method_1_code 102 = .ok (.putfield 32, 3) := by decide +kernel
theorem g4d1_105 : decode prog_4_method_1_code 105 = .ok (.aload_n 0, 1) := by decide +kernel
theorem g4d1_106 : decode prog_4_method_1_code 106 = .ok (.bipush 64, 2) := by decide +kernel
theorem g4d1_108 : decode prog_4_method_1_code 108 = .ok (.lload_n 3, 1) := by decide +kernel
theorem g4d1_109 : decode prog_4_method_1_code 109 = .ok (.lconst 1, 1) := by decide +kernel
theorem g4d1_110 : decode prog_4_method_1_code 110 = .ok (.lsub, 1) := by decide +kernel
theorem g4d1_111 : decode prog_4_method_1_code 111 = .ok (.invokestatic 35, 3) := by decide +kernel
theorem g4d1_114 : decode prog_4_method_1_code 114 = .ok (.isub, 1) := by decide +kernel
theorem g4d1_115 : decode prog_4_method_1_code 115 = .ok (.putfield 41, 3) := by decide +kernel
theorem g4d1_118 : decode prog_4_method_1_code 118 = .ok (.return_, 1) := by decide +kernel
theorem g4pd1_0 : parseMethodDescriptor "(J)I" = some ⟨[.long], some .int⟩ := by decide +kernel
theorem g4pn1 : plainName "com/example/known_leaks/knownleaks/CellPacking" = true := by first | (simp [plainName, overriddenIn]; done) | decide +kernel
theorem g4ef1 (m : MethodId) (x0 : Addr) (x1 : Int32) (x2 : Int32) : entryFrame m #[(.ref x0), (.int x1), (.int x2)] 6 = mkF m 0 #[.val (.ref x0), .val (.int x1), .val (.int x2), .unset, .unset, .unset] [] := by first | (simp [entryFrame, mkF, argsToLocals, Value.category]; done) | rfl
set_option maxRecDepth 65536 in
set_option maxHeartbeats 40000000 in
theorem rm_ini4 (l : Launch) (Z : State) (a0 : Array Value) (hw : ∀ d ∈ tables_1, d.before a0 Z = true) (ws : List Jvm.Cond) (ar : Addr) (p1 : Int32)  (h0 : Heap) (n0 : Nat) (Z0 : n0 ≤ h0.size) (H0 : Exa Z h0 ar "com/example/known_leaks/knownleaks/CellPacking") (H1 : Fld Z h0 ar "com/example/known_leaks/knownleaks/CellPacking" "powers" "[J" .null) (H2 : Fld Z h0 ar "com/example/known_leaks/knownleaks/CellPacking" "modulus" "I" (.int (0 : Int32))) (H3 : Fld Z h0 ar "com/example/known_leaks/knownleaks/CellPacking" "cellsPerBlock" "I" (.int (0 : Int32))) (H4 : Fld Z h0 ar "com/example/known_leaks/knownleaks/CellPacking" "blockBits" "I" (.int (0 : Int32))) (g_ar : n0 ≤ ar) (h2 : ¬ p1 < (2 : Int32)) (hnz : (p1).toInt64 ≠ 0) (hp0 : ¬ ((144115188075855872 : Int64) / (p1).toInt64) < (1 : Int64)) (hp1 : ¬ ((144115188075855872 : Int64) / (p1).toInt64) < ((1 : Int64) * (p1).toInt64)) (hp2 : ¬ ((144115188075855872 : Int64) / (p1).toInt64) < (((1 : Int64) * (p1).toInt64) * (p1).toInt64)) (hp3 : ¬ ((144115188075855872 : Int64) / (p1).toInt64) < ((((1 : Int64) * (p1).toInt64) * (p1).toInt64) * (p1).toInt64)) :
    MetFree l (⟨"com/example/known_leaks/knownleaks/CellPacking", "<init>", "(II)V"⟩ : MethodName) (head1 (Jvm.Cond.code (⟨"com/example/known_leaks/knownleaks/CellPacking", "<init>", "(II)V"⟩ : MethodName) prog_4_method_1_code 6 none :: ws) ({ frames := 2, cells := 1, slots := 4, locals := 30 } : Room)) (fun a U => a = #[(.ref ar), (.int p1), (.int (4 : Int32))] ∧ Z.Warmed39 U.vm ∧ U.heap = h0) (fun _ _ _ _ _ => True) (fun _ U o U' => ∃ v L, o = .returned v ∧ Q_ini4 Z ar p1 h0 n0 v U'.heap L ∧ FrameEnd U o U' L ({ frames := 2, cells := 1, slots := 4, locals := 30 } : Room).cells ({ frames := 2, cells := 1, slots := 4, locals := 30 } : Room).slots) := by
  refine MetFree.of_bodySF (plainFor_of_name g4pn1) hisR ?_
  intro p e s m args below meth c s₁ Bd hml0 hP hK
  obtain ⟨rfl, hZ, hh⟩ := hP
  have hx := Bd.exec
  have hby := Bd.bytes
  have hret := Bd.returns
  have hlk := Bd.notSynchronized
  have hml : c.maxLocals = 6 := hml0
  have hown : s.vm.findClass "com/example/known_leaks/knownleaks/CellPacking" = some m.cls := findClass_of_methodNamed Bd.named
  have hnm := (name_of_methodNamed Bd.named Bd.method).1
  have X0 : Stand p l e ({ frames := 2, cells := 1, slots := 4, locals := 30 } : Room) s m #[(.ref ar), (.int p1), (.int (4 : Int32))] below meth c s₁ [] 0 0 := Stand.of_body Bd
  have e0 : s₁.heap = h0 := by rw [← hh, Bd.state]; rfl
  have N0 := Fr.nil n0
  show Wp p e below (fun o s₂ => ∃ v L, o = .returned v ∧ Q_ini4 Z ar p1 h0 n0 v s₂.heap L ∧ FrameEnd s o s₂ L ({ frames := 2, cells := 1, slots := 4, locals := 30 } : Room).cells ({ frames := 2, cells := 1, slots := 4, locals := 30 } : Room).slots) _
  refine Wp.back (U' := (s₁.setTop (mkF m 0 #[.val (.ref ar), .val (.int p1), .val (.int (4 : Int32)), .unset, .unset, .unset] []))) (fun t k => castTop (g4ef1 m ar p1 (4 : Int32)) k) ?_
  refine Wp.back (U' := (s₁.setTop (mkF m 1 #[.val (.ref ar), .val (.int p1), .val (.int (4 : Int32)), .unset, .unset, .unset] [(.ref ar)]))) (fun t k => XS.aloadN X0.here hx rfl (hb hby g4d1_0) rfl rfl k) ?_
  obtain ⟨T1, X1, e1, st1⟩ := initO X0 hx hZ hown (hw _ (List.mem_of_getElem? (i := 8) rfl)) (hw _ (List.mem_of_getElem? (i := 9) rfl)) (hw _ (List.mem_of_getElem? (i := 10) rfl)) e0 (g := (mkF m 1 #[.val (.ref ar), .val (.int p1), .val (.int (4 : Int32)), .unset, .unset, .unset] [(.ref ar)])) rfl (by rw [hml]; rfl) rfl (hb hby g4d1_1) (by decide) (W := 0) (by show 2 * 0 + _ ≤ _; exact Nat.le_of_eq rfl) (by decide)
  refine Wp.back (U' := (T1.setTop (mkF m 4 #[.val (.ref ar), .val (.int p1), .val (.int (4 : Int32)), .unset, .unset, .unset] []))) st1 ?_
  refine Wp.back (U' := (T1.setTop (mkF m 43 #[.val (.ref ar), .val (.int p1), .val (.int (4 : Int32)), .unset, .unset, .unset] [(.int (4 : Int32)), (.ref ar)]))) (fun t k => XS.iloadN X1.here hx rfl (hb hby g4d1_4) rfl (XT.iconstV X1.here hx rfl (2 : Int32) (hb hby g4d1_5) (by decide) (XS.icmpNo X1.here hx rfl (hb hby g4d1_6) rfl (flt h2).1 (XS.iloadN X1.here hx rfl (hb hby g4d1_9) rfl (XT.iconstV X1.here hx rfl (1 : Int32) (hb hby g4d1_10) (by decide) (XS.icmpYes X1.here hx rfl (pc0 := 11) (pc' := 29) rfl (hb hby g4d1_11) rfl (flt (by decide)).2.1 (by decide) (by decide) (XS.iloadN X1.here hx rfl (hb hby g4d1_29) rfl (XT.bipushV X1.here hx rfl (57 : Int32) (hb hby g4d1_30) (by decide) (XS.icmpYes X1.here hx rfl (pc0 := 32) (pc' := 41) rfl (hb hby g4d1_32) rfl (flt (by decide)).2.2.2 (by decide) (by decide) (XS.aloadN X1.here hx rfl (hb hby g4d1_41) rfl rfl (XS.iloadN X1.here hx rfl (hb hby g4d1_42) rfl k))))))))))) ?_
  obtain ⟨T2, h2, k2, X2, e2, E2, A2, st2⟩ := newP X1 hx hZ (hw _ (List.mem_of_getElem? (i := 11) rfl)) e1 (g := (mkF m 43 #[.val (.ref ar), .val (.int p1), .val (.int (4 : Int32)), .unset, .unset, .unset] [(.int (4 : Int32)), (.ref ar)])) rfl (hb hby g4d1_43) rfl (by decide) (cap := 4) (by decide) (by decide) (by decide) (by decide)
  obtain ⟨b2, g2⟩ : ∃ z, z = h0.size := ⟨_, rfl⟩
  rw [← g2] at A2 st2
  have ne_ar_b2 : ar ≠ b2 := Nat.ne_of_lt (Nat.lt_of_lt_of_le H0.lt (Nat.le_of_eq g2.symm))
  have g_b2 : n0 ≤ b2 := Nat.le_trans Z0 (Nat.le_of_eq g2.symm)
  have sz_b2 : h0.size ≤ b2 := Nat.le_trans (Keep.refl h0 [ar]).1 (Nat.le_of_eq g2.symm)
  have f3_0 := Nat.le_trans Z0 E2.1
  have f3_1 := H0.ext E2
  have f3_2 := H1.ext E2
  have f3_3 := H2.ext E2
  have f3_4 := H3.ext E2
  have f3_5 := H4.ext E2
  have f3_6 := (Keep.refl h0 [ar]).ext E2
  have V2 : Arv Z h2 b2 k2 .long (4 : Int32) [(.long (0 : Int64)), (.long (0 : Int64)), (.long (0 : Int64)), (.long (0 : Int64))] (.long (0 : Int64)) := (Arv.new A2 (by decide)).pad (pad_rep [] (.long (0 : Int64)) 4)
  refine Wp.back (U' := (T2.setTop (mkF m 45 #[.val (.ref ar), .val (.int p1), .val (.int (4 : Int32)), .unset, .unset, .unset] [(.ref b2), (.ref ar)]))) st2 ?_
  obtain ⟨T4, h4, X4, e4, W4, st4⟩ := putF X2 hx hZ hown (host := "") (Or.inl (hw _ (List.mem_of_getElem? (i := 12) rfl))) Via.refl e2 f3_2 f3_1 (Or.inr ⟨(hw _ (List.mem_of_getElem? (i := 13) rfl)), rfl, hnm⟩) (hw _ (List.mem_of_getElem? (i := 3) rfl)) (ty := (.array .long)) (by decide) rfl rfl (g := (mkF m 45 #[.val (.ref ar), .val (.int p1), .val (.int (4 : Int32)), .unset, .unset, .unset] [(.ref b2), (.ref ar)])) rfl rfl (hb hby g4d1_45)
  have Fw4 := f3_2.same W4
  have f5_0 := Nat.le_trans f3_0 (Keep.of_wr W4).1
  have f5_1 := f3_1.wr W4
  have f5_2 := f3_3.other W4 (Or.inr (slot_ne (Or.inr (hw _ (List.mem_of_getElem? (i := 16) rfl))) (Or.inr (hw _ (List.mem_of_getElem? (i := 13) rfl))) (by decide) (t := .int) (t' := (.array .long)) (by decide) (by decide)))
  have f5_3 := f3_4.other W4 (Or.inr (slot_ne (Or.inr (hw _ (List.mem_of_getElem? (i := 18) rfl))) (Or.inr (hw _ (List.mem_of_getElem? (i := 13) rfl))) (by decide) (t := .int) (t' := (.array .long)) (by decide) (by decide)))
  have f5_4 := f3_5.other W4 (Or.inr (slot_ne (Or.inr (hw _ (List.mem_of_getElem? (i := 29) rfl))) (Or.inr (hw _ (List.mem_of_getElem? (i := 13) rfl))) (by decide) (t := .int) (t' := (.array .long)) (by decide) (by decide)))
  have f5_5 := f3_6.wr W4 (Or.inl (List.mem_of_getElem? (i := 0) rfl))
  have f5_6 := V2.other W4 (Ne.symm ne_ar_b2)
  have N4 := Fr.snoc X4 N0 g_ar
  refine Wp.back (U' := (T4.setTop (mkF m 48 #[.val (.ref ar), .val (.int p1), .val (.int (4 : Int32)), .unset, .unset, .unset] []))) st4 ?_
  refine Wp.back (U' := (T4.setTop (mkF m 66 #[.val (.ref ar), .val (.int p1), .val (.int (4 : Int32)), .val (.long (1 : Int64)), .second, .val (.int (0 : Int32))] [(.long ((144115188075855872 : Int64) / (p1).toInt64)), (.long (1 : Int64))]))) (fun t k => XT.lconstV X4.here hx rfl (1 : Int64) (hb hby g4d1_48) (by decide) (XS.lstoreN X4.here hx rfl (hb hby g4d1_49) rfl (l' := #[.val (.ref ar), .val (.int p1), .val (.int (4 : Int32)), .val (.long (1 : Int64)), .second, .unset]) rfl (XT.iconstV X4.here hx rfl (0 : Int32) (hb hby g4d1_50) (by decide) (XS.istore X4.here hx rfl (hb hby g4d1_51) rfl (l' := #[.val (.ref ar), .val (.int p1), .val (.int (4 : Int32)), .val (.long (1 : Int64)), .second, .val (.int (0 : Int32))]) rfl (XS.iload X4.here hx rfl (hb hby g4d1_53) rfl (XS.iloadN X4.here hx rfl (hb hby g4d1_55) rfl (XS.icmpNo X4.here hx rfl (hb hby g4d1_56) rfl (tlt (by decide)).2.1 (XS.lloadN X4.here hx rfl (hb hby g4d1_59) rfl (Jvm.Stand.ldc2J X4 hx hown (mvT hZ (hw _ (List.mem_of_getElem? (i := 14) rfl))) rfl (hb hby g4d1_60) (XS.iloadN X4.here hx rfl (hb hby g4d1_63) rfl (XS.i2l X4.here hx rfl (hb hby g4d1_64) rfl (XS.ldiv X4.here hx rfl (hb hby g4d1_65) rfl hnz k)))))))))))) ?_
  refine Wp.back (U' := (T4.setTop (mkF m 77 #[.val (.ref ar), .val (.int p1), .val (.int (4 : Int32)), .val (.long (1 : Int64)), .second, .val (.int (0 : Int32))] [(.ref ar)]))) (fun t k => XS.lcmp X4.here hx rfl (hb hby g4d1_66) rfl (XS.ifYes X4.here hx rfl (pc0 := 67) (pc' := 76) rfl (hb hby g4d1_67) rfl ((if0 _ _).trans (flt (fun q => hp0 ((lw_gt (1 : Int64) ((144115188075855872 : Int64) / (p1).toInt64)).mp q))).2.2.2) (by decide) (by decide) (XS.aloadN X4.here hx rfl (hb hby g4d1_76) rfl rfl k))) ?_
  obtain ⟨T6, X6, e6, st6⟩ := getF X4 hx hZ hown (host := "") (Or.inl (hw _ (List.mem_of_getElem? (i := 12) rfl))) Via.refl e4 Fw4 (g := (mkF m 77 #[.val (.ref ar), .val (.int p1), .val (.int (4 : Int32)), .val (.long (1 : Int64)), .second, .val (.int (0 : Int32))] [(.ref ar)])) rfl rfl (hb hby g4d1_77)
  refine Wp.back (U' := (T6.setTop (mkF m 80 #[.val (.ref ar), .val (.int p1), .val (.int (4 : Int32)), .val (.long (1 : Int64)), .second, .val (.int (0 : Int32))] [(.ref b2)]))) st6 ?_
  refine Wp.back (U' := (T6.setTop (mkF m 83 #[.val (.ref ar), .val (.int p1), .val (.int (4 : Int32)), .val (.long (1 : Int64)), .second, .val (.int (0 : Int32))] [(.long (1 : Int64)), (.int (0 : Int32)), (.ref b2)]))) (fun t k => XS.iload X6.here hx rfl (hb hby g4d1_80) rfl (XS.lloadN X6.here hx rfl (hb hby g4d1_82) rfl k)) ?_
  have vq7 := f5_6
  obtain ⟨cl7, Ar7, qa7, qs7, qn7, qh7, qg7⟩ := vq7
  have hin7 : ¬ ((0 : Int32) < 0 ∨ cl7.slots.size ≤ ((0 : Int32)).toNatClampNeg) := inb_of qs7 ⟨by decide, by decide⟩
  obtain ⟨T7, h7, X7, e7, W7, st7⟩ := stJ X6 hx hZ e6 Ar7 (j := (0 : Int32)) hin7 (g := (mkF m 83 #[.val (.ref ar), .val (.int p1), .val (.int (4 : Int32)), .val (.long (1 : Int64)), .second, .val (.int (0 : Int32))] [(.long (1 : Int64)), (.int (0 : Int32)), (.ref b2)])) rfl rfl (hb hby g4d1_83)
  have V7 : Arv Z h7 b2 k2 .long (4 : Int32) [(.long (1 : Int64)), (.long (0 : Int64)), (.long (0 : Int64)), (.long (0 : Int64))] (.long (0 : Int64)) := Arv.set Ar7 qa7 qs7 qn7 qh7 qg7 rfl W7 0 rfl (Nat.le_of_ble_eq_true rfl)
  have f8_0 := Nat.le_trans f5_0 (Keep.of_wr W7).1
  have f8_1 := f5_1.wr W7
  have f8_2 := f5_2.other W7 (Or.inl ne_ar_b2)
  have f8_3 := f5_3.other W7 (Or.inl ne_ar_b2)
  have f8_4 := f5_4.other W7 (Or.inl ne_ar_b2)
  have f8_5 := f5_5.wr W7 (Or.inr sz_b2)
  have f8_6 := Fw4.other W7 (Or.inl ne_ar_b2)
  have N7 := Fr.snoc X7 N4 g_b2
  refine Wp.back (U' := (T7.setTop (mkF m 84 #[.val (.ref ar), .val (.int p1), .val (.int (4 : Int32)), .val (.long (1 : Int64)), .second, .val (.int (0 : Int32))] []))) st7 ?_
  refine Wp.back (U' := (T7.setTop (mkF m 63 #[.val (.ref ar), .val (.int p1), .val (.int (4 : Int32)), .val (.long ((1 : Int64) * (p1).toInt64)), .second, .val (.int (1 : Int32))] [(.long (144115188075855872 : Int64)), (.long ((1 : Int64) * (p1).toInt64))]))) (fun t k => XS.lloadN X7.here hx rfl (hb hby g4d1_84) rfl (XS.iloadN X7.here hx rfl (hb hby g4d1_85) rfl (XS.i2l X7.here hx rfl (hb hby g4d1_86) rfl (XS.lmul X7.here hx rfl (hb hby g4d1_87) rfl (XS.lstoreN X7.here hx rfl (hb hby g4d1_88) rfl (l' := #[.val (.ref ar), .val (.int p1), .val (.int (4 : Int32)), .val (.long ((1 : Int64) * (p1).toInt64)), .second, .val (.int (0 : Int32))]) rfl (XT.iincV X7.here hx rfl (1 : Int32) (hb hby g4d1_89) (by decide) rfl (l' := #[.val (.ref ar), .val (.int p1), .val (.int (4 : Int32)), .val (.long ((1 : Int64) * (p1).toInt64)), .second, .val (.int (1 : Int32))]) rfl (XS.goto X7.here hx rfl (pc0 := 92) (pc' := 53) rfl (hb hby g4d1_92) (by decide) (by decide) (XS.iload X7.here hx rfl (hb hby g4d1_53) rfl (XS.iloadN X7.here hx rfl (hb hby g4d1_55) rfl (XS.icmpNo X7.here hx rfl (hb hby g4d1_56) rfl (tlt (by decide)).2.1 (XS.lloadN X7.here hx rfl (hb hby g4d1_59) rfl (Jvm.Stand.ldc2J X7 hx hown (mvT hZ (hw _ (List.mem_of_getElem? (i := 14) rfl))) rfl (hb hby g4d1_60) k)))))))))))) ?_
  refine Wp.back (U' := (T7.setTop (mkF m 77 #[.val (.ref ar), .val (.int p1), .val (.int (4 : Int32)), .val (.long ((1 : Int64) * (p1).toInt64)), .second, .val (.int (1 : Int32))] [(.ref ar)]))) (fun t k => XS.iloadN X7.here hx rfl (hb hby g4d1_63) rfl (XS.i2l X7.here hx rfl (hb hby g4d1_64) rfl (XS.ldiv X7.here hx rfl (hb hby g4d1_65) rfl hnz (XS.lcmp X7.here hx rfl (hb hby g4d1_66) rfl (XS.ifYes X7.here hx rfl (pc0 := 67) (pc' := 76) rfl (hb hby g4d1_67) rfl ((if0 _ _).trans (flt (fun q => hp1 ((lw_gt ((1 : Int64) * (p1).toInt64) ((144115188075855872 : Int64) / (p1).toInt64)).mp q))).2.2.2) (by decide) (by decide) (XS.aloadN X7.here hx rfl (hb hby g4d1_76) rfl rfl k)))))) ?_
  obtain ⟨T9, X9, e9, st9⟩ := getF X7 hx hZ hown (host := "") (Or.inl (hw _ (List.mem_of_getElem? (i := 12) rfl))) Via.refl e7 f8_6 (g := (mkF m 77 #[.val (.ref ar), .val (.int p1), .val (.int (4 : Int32)), .val (.long ((1 : Int64) * (p1).toInt64)), .second, .val (.int (1 : Int32))] [(.ref ar)])) rfl rfl (hb hby g4d1_77)
  refine Wp.back (U' := (T9.setTop (mkF m 80 #[.val (.ref ar), .val (.int p1), .val (.int (4 : Int32)), .val (.long ((1 : Int64) * (p1).toInt64)), .second, .val (.int (1 : Int32))] [(.ref b2)]))) st9 ?_
  refine Wp.back (U' := (T9.setTop (mkF m 83 #[.val (.ref ar), .val (.int p1), .val (.int (4 : Int32)), .val (.long ((1 : Int64) * (p1).toInt64)), .second, .val (.int (1 : Int32))] [(.long ((1 : Int64) * (p1).toInt64)), (.int (1 : Int32)), (.ref b2)]))) (fun t k => XS.iload X9.here hx rfl (hb hby g4d1_80) rfl (XS.lloadN X9.here hx rfl (hb hby g4d1_82) rfl k)) ?_
  have vq10 := V7
  obtain ⟨cl10, Ar10, qa10, qs10, qn10, qh10, qg10⟩ := vq10
  have hin10 : ¬ ((1 : Int32) < 0 ∨ cl10.slots.size ≤ ((1 : Int32)).toNatClampNeg) := inb_of qs10 ⟨by decide, by decide⟩
  obtain ⟨T10, h10, X10, e10, W10, st10⟩ := stJ X9 hx hZ e9 Ar10 (j := (1 : Int32)) hin10 (g := (mkF m 83 #[.val (.ref ar), .val (.int p1), .val (.int (4 : Int32)), .val (.long ((1 : Int64) * (p1).toInt64)), .second, .val (.int (1 : Int32))] [(.long ((1 : Int64) * (p1).toInt64)), (.int (1 : Int32)), (.ref b2)])) rfl rfl (hb hby g4d1_83)
  have V10 : Arv Z h10 b2 k2 .long (4 : Int32) [(.long (1 : Int64)), (.long ((1 : Int64) * (p1).toInt64)), (.long (0 : Int64)), (.long (0 : Int64))] (.long (0 : Int64)) := Arv.set Ar10 qa10 qs10 qn10 qh10 qg10 rfl W10 1 rfl (Nat.le_of_ble_eq_true rfl)
  have f11_0 := Nat.le_trans f8_0 (Keep.of_wr W10).1
  have f11_1 := f8_1.wr W10
  have f11_2 := f8_2.other W10 (Or.inl ne_ar_b2)
  have f11_3 := f8_3.other W10 (Or.inl ne_ar_b2)
  have f11_4 := f8_4.other W10 (Or.inl ne_ar_b2)
  have f11_5 := f8_5.wr W10 (Or.inr sz_b2)
  have f11_6 := f8_6.other W10 (Or.inl ne_ar_b2)
  have N10 := Fr.snoc X10 N7 g_b2
  refine Wp.back (U' := (T10.setTop (mkF m 84 #[.val (.ref ar), .val (.int p1), .val (.int (4 : Int32)), .val (.long ((1 : Int64) * (p1).toInt64)), .second, .val (.int (1 : Int32))] []))) st10 ?_
  refine Wp.back (U' := (T10.setTop (mkF m 63 #[.val (.ref ar), .val (.int p1), .val (.int (4 : Int32)), .val (.long (((1 : Int64) * (p1).toInt64) * (p1).toInt64)), .second, .val (.int (2 : Int32))] [(.long (144115188075855872 : Int64)), (.long (((1 : Int64) * (p1).toInt64) * (p1).toInt64))]))) (fun t k => XS.lloadN X10.here hx rfl (hb hby g4d1_84) rfl (XS.iloadN X10.here hx rfl (hb hby g4d1_85) rfl (XS.i2l X10.here hx rfl (hb hby g4d1_86) rfl (XS.lmul X10.here hx rfl (hb hby g4d1_87) rfl (XS.lstoreN X10.here hx rfl (hb hby g4d1_88) rfl (l' := #[.val (.ref ar), .val (.int p1), .val (.int (4 : Int32)), .val (.long (((1 : Int64) * (p1).toInt64) * (p1).toInt64)), .second, .val (.int (1 : Int32))]) rfl (XT.iincV X10.here hx rfl (1 : Int32) (hb hby g4d1_89) (by decide) rfl (l' := #[.val (.ref ar), .val (.int p1), .val (.int (4 : Int32)), .val (.long (((1 : Int64) * (p1).toInt64) * (p1).toInt64)), .second, .val (.int (2 : Int32))]) rfl (XS.goto X10.here hx rfl (pc0 := 92) (pc' := 53) rfl (hb hby g4d1_92) (by decide) (by decide) (XS.iload X10.here hx rfl (hb hby g4d1_53) rfl (XS.iloadN X10.here hx rfl (hb hby g4d1_55) rfl (XS.icmpNo X10.here hx rfl (hb hby g4d1_56) rfl (tlt (by decide)).2.1 (XS.lloadN X10.here hx rfl (hb hby g4d1_59) rfl (Jvm.Stand.ldc2J X10 hx hown (mvT hZ (hw _ (List.mem_of_getElem? (i := 14) rfl))) rfl (hb hby g4d1_60) k)))))))))))) ?_
  refine Wp.back (U' := (T10.setTop (mkF m 77 #[.val (.ref ar), .val (.int p1), .val (.int (4 : Int32)), .val (.long (((1 : Int64) * (p1).toInt64) * (p1).toInt64)), .second, .val (.int (2 : Int32))] [(.ref ar)]))) (fun t k => XS.iloadN X10.here hx rfl (hb hby g4d1_63) rfl (XS.i2l X10.here hx rfl (hb hby g4d1_64) rfl (XS.ldiv X10.here hx rfl (hb hby g4d1_65) rfl hnz (XS.lcmp X10.here hx rfl (hb hby g4d1_66) rfl (XS.ifYes X10.here hx rfl (pc0 := 67) (pc' := 76) rfl (hb hby g4d1_67) rfl ((if0 _ _).trans (flt (fun q => hp2 ((lw_gt (((1 : Int64) * (p1).toInt64) * (p1).toInt64) ((144115188075855872 : Int64) / (p1).toInt64)).mp q))).2.2.2) (by decide) (by decide) (XS.aloadN X10.here hx rfl (hb hby g4d1_76) rfl rfl k)))))) ?_
  obtain ⟨T12, X12, e12, st12⟩ := getF X10 hx hZ hown (host := "") (Or.inl (hw _ (List.mem_of_getElem? (i := 12) rfl))) Via.refl e10 f11_6 (g := (mkF m 77 #[.val (.ref ar), .val (.int p1), .val (.int (4 : Int32)), .val (.long (((1 : Int64) * (p1).toInt64) * (p1).toInt64)), .second, .val (.int (2 : Int32))] [(.ref ar)])) rfl rfl (hb hby g4d1_77)
  refine Wp.back (U' := (T12.setTop (mkF m 80 #[.val (.ref ar), .val (.int p1), .val (.int (4 : Int32)), .val (.long (((1 : Int64) * (p1).toInt64) * (p1).toInt64)), .second, .val (.int (2 : Int32))] [(.ref b2)]))) st12 ?_
  refine Wp.back (U' := (T12.setTop (mkF m 83 #[.val (.ref ar), .val (.int p1), .val (.int (4 : Int32)), .val (.long (((1 : Int64) * (p1).toInt64) * (p1).toInt64)), .second, .val (.int (2 : Int32))] [(.long (((1 : Int64) * (p1).toInt64) * (p1).toInt64)), (.int (2 : Int32)), (.ref b2)]))) (fun t k => XS.iload X12.here hx rfl (hb hby g4d1_80) rfl (XS.lloadN X12.here hx rfl (hb hby g4d1_82) rfl k)) ?_
  have vq13 := V10
  obtain ⟨cl13, Ar13, qa13, qs13, qn13, qh13, qg13⟩ := vq13
  have hin13 : ¬ ((2 : Int32) < 0 ∨ cl13.slots.size ≤ ((2 : Int32)).toNatClampNeg) := inb_of qs13 ⟨by decide, by decide⟩
  obtain ⟨T13, h13, X13, e13, W13, st13⟩ := stJ X12 hx hZ e12 Ar13 (j := (2 : Int32)) hin13 (g := (mkF m 83 #[.val (.ref ar), .val (.int p1), .val (.int (4 : Int32)), .val (.long (((1 : Int64) * (p1).toInt64) * (p1).toInt64)), .second, .val (.int (2 : Int32))] [(.long (((1 : Int64) * (p1).toInt64) * (p1).toInt64)), (.int (2 : Int32)), (.ref b2)])) rfl rfl (hb hby g4d1_83)
  have V13 : Arv Z h13 b2 k2 .long (4 : Int32) [(.long (1 : Int64)), (.long ((1 : Int64) * (p1).toInt64)), (.long (((1 : Int64) * (p1).toInt64) * (p1).toInt64)), (.long (0 : Int64))] (.long (0 : Int64)) := Arv.set Ar13 qa13 qs13 qn13 qh13 qg13 rfl W13 2 rfl (Nat.le_of_ble_eq_true rfl)
  have f14_0 := Nat.le_trans f11_0 (Keep.of_wr W13).1
  have f14_1 := f11_1.wr W13
  have f14_2 := f11_2.other W13 (Or.inl ne_ar_b2)
  have f14_3 := f11_3.other W13 (Or.inl ne_ar_b2)
  have f14_4 := f11_4.other W13 (Or.inl ne_ar_b2)
  have f14_5 := f11_5.wr W13 (Or.inr sz_b2)
  have f14_6 := f11_6.other W13 (Or.inl ne_ar_b2)
  have N13 := Fr.snoc X13 N10 g_b2
  refine Wp.back (U' := (T13.setTop (mkF m 84 #[.val (.ref ar), .val (.int p1), .val (.int (4 : Int32)), .val (.long (((1 : Int64) * (p1).toInt64) * (p1).toInt64)), .second, .val (.int (2 : Int32))] []))) st13 ?_
  refine Wp.back (U' := (T13.setTop (mkF m 63 #[.val (.ref ar), .val (.int p1), .val (.int (4 : Int32)), .val (.long ((((1 : Int64) * (p1).toInt64) * (p1).toInt64) * (p1).toInt64)), .second, .val (.int (3 : Int32))] [(.long (144115188075855872 : Int64)), (.long ((((1 : Int64) * (p1).toInt64) * (p1).toInt64) * (p1).toInt64))]))) (fun t k => XS.lloadN X13.here hx rfl (hb hby g4d1_84) rfl (XS.iloadN X13.here hx rfl (hb hby g4d1_85) rfl (XS.i2l X13.here hx rfl (hb hby g4d1_86) rfl (XS.lmul X13.here hx rfl (hb hby g4d1_87) rfl (XS.lstoreN X13.here hx rfl (hb hby g4d1_88) rfl (l' := #[.val (.ref ar), .val (.int p1), .val (.int (4 : Int32)), .val (.long ((((1 : Int64) * (p1).toInt64) * (p1).toInt64) * (p1).toInt64)), .second, .val (.int (2 : Int32))]) rfl (XT.iincV X13.here hx rfl (1 : Int32) (hb hby g4d1_89) (by decide) rfl (l' := #[.val (.ref ar), .val (.int p1), .val (.int (4 : Int32)), .val (.long ((((1 : Int64) * (p1).toInt64) * (p1).toInt64) * (p1).toInt64)), .second, .val (.int (3 : Int32))]) rfl (XS.goto X13.here hx rfl (pc0 := 92) (pc' := 53) rfl (hb hby g4d1_92) (by decide) (by decide) (XS.iload X13.here hx rfl (hb hby g4d1_53) rfl (XS.iloadN X13.here hx rfl (hb hby g4d1_55) rfl (XS.icmpNo X13.here hx rfl (hb hby g4d1_56) rfl (tlt (by decide)).2.1 (XS.lloadN X13.here hx rfl (hb hby g4d1_59) rfl (Jvm.Stand.ldc2J X13 hx hown (mvT hZ (hw _ (List.mem_of_getElem? (i := 14) rfl))) rfl (hb hby g4d1_60) k)))))))))))) ?_
  refine Wp.back (U' := (T13.setTop (mkF m 77 #[.val (.ref ar), .val (.int p1), .val (.int (4 : Int32)), .val (.long ((((1 : Int64) * (p1).toInt64) * (p1).toInt64) * (p1).toInt64)), .second, .val (.int (3 : Int32))] [(.ref ar)]))) (fun t k => XS.iloadN X13.here hx rfl (hb hby g4d1_63) rfl (XS.i2l X13.here hx rfl (hb hby g4d1_64) rfl (XS.ldiv X13.here hx rfl (hb hby g4d1_65) rfl hnz (XS.lcmp X13.here hx rfl (hb hby g4d1_66) rfl (XS.ifYes X13.here hx rfl (pc0 := 67) (pc' := 76) rfl (hb hby g4d1_67) rfl ((if0 _ _).trans (flt (fun q => hp3 ((lw_gt ((((1 : Int64) * (p1).toInt64) * (p1).toInt64) * (p1).toInt64) ((144115188075855872 : Int64) / (p1).toInt64)).mp q))).2.2.2) (by decide) (by decide) (XS.aloadN X13.here hx rfl (hb hby g4d1_76) rfl rfl k)))))) ?_
  obtain ⟨T15, X15, e15, st15⟩ := getF X13 hx hZ hown (host := "") (Or.inl (hw _ (List.mem_of_getElem? (i := 12) rfl))) Via.refl e13 f14_6 (g := (mkF m 77 #[.val (.ref ar), .val (.int p1), .val (.int (4 : Int32)), .val (.long ((((1 : Int64) * (p1).toInt64) * (p1).toInt64) * (p1).toInt64)), .second, .val (.int (3 : Int32))] [(.ref ar)])) rfl rfl (hb hby g4d1_77)
  refine Wp.back (U' := (T15.setTop (mkF m 80 #[.val (.ref ar), .val (.int p1), .val (.int (4 : Int32)), .val (.long ((((1 : Int64) * (p1).toInt64) * (p1).toInt64) * (p1).toInt64)), .second, .val (.int (3 : Int32))] [(.ref b2)]))) st15 ?_
  refine Wp.back (U' := (T15.setTop (mkF m 83 #[.val (.ref ar), .val (.int p1), .val (.int (4 : Int32)), .val (.long ((((1 : Int64) * (p1).toInt64) * (p1).toInt64) * (p1).toInt64)), .second, .val (.int (3 : Int32))] [(.long ((((1 : Int64) * (p1).toInt64) * (p1).toInt64) * (p1).toInt64)), (.int (3 : Int32)), (.ref b2)]))) (fun t k => XS.iload X15.here hx rfl (hb hby g4d1_80) rfl (XS.lloadN X15.here hx rfl (hb hby g4d1_82) rfl k)) ?_
  have vq16 := V13
  obtain ⟨cl16, Ar16, qa16, qs16, qn16, qh16, qg16⟩ := vq16
  have hin16 : ¬ ((3 : Int32) < 0 ∨ cl16.slots.size ≤ ((3 : Int32)).toNatClampNeg) := inb_of qs16 ⟨by decide, by decide⟩
  obtain ⟨T16, h16, X16, e16, W16, st16⟩ := stJ X15 hx hZ e15 Ar16 (j := (3 : Int32)) hin16 (g := (mkF m 83 #[.val (.ref ar), .val (.int p1), .val (.int (4 : Int32)), .val (.long ((((1 : Int64) * (p1).toInt64) * (p1).toInt64) * (p1).toInt64)), .second, .val (.int (3 : Int32))] [(.long ((((1 : Int64) * (p1).toInt64) * (p1).toInt64) * (p1).toInt64)), (.int (3 : Int32)), (.ref b2)])) rfl rfl (hb hby g4d1_83)
  have V16 : Arv Z h16 b2 k2 .long (4 : Int32) [(.long (1 : Int64)), (.long ((1 : Int64) * (p1).toInt64)), (.long (((1 : Int64) * (p1).toInt64) * (p1).toInt64)), (.long ((((1 : Int64) * (p1).toInt64) * (p1).toInt64) * (p1).toInt64))] (.long (0 : Int64)) := Arv.set Ar16 qa16 qs16 qn16 qh16 qg16 rfl W16 3 rfl (Nat.le_of_ble_eq_true rfl)
  have f17_0 := Nat.le_trans f14_0 (Keep.of_wr W16).1
  have f17_1 := f14_1.wr W16
  have f17_2 := f14_2.other W16 (Or.inl ne_ar_b2)
  have f17_3 := f14_3.other W16 (Or.inl ne_ar_b2)
  have f17_4 := f14_4.other W16 (Or.inl ne_ar_b2)
  have f17_5 := f14_5.wr W16 (Or.inr sz_b2)
  have f17_6 := f14_6.other W16 (Or.inl ne_ar_b2)
  have N16 := Fr.snoc X16 N13 g_b2
  refine Wp.back (U' := (T16.setTop (mkF m 84 #[.val (.ref ar), .val (.int p1), .val (.int (4 : Int32)), .val (.long ((((1 : Int64) * (p1).toInt64) * (p1).toInt64) * (p1).toInt64)), .second, .val (.int (3 : Int32))] []))) st16 ?_
  refine Wp.back (U' := (T16.setTop (mkF m 97 #[.val (.ref ar), .val (.int p1), .val (.int (4 : Int32)), .val (.long (((((1 : Int64) * (p1).toInt64) * (p1).toInt64) * (p1).toInt64) * (p1).toInt64)), .second, .val (.int (4 : Int32))] [(.int p1), (.ref ar)]))) (fun t k => XS.lloadN X16.here hx rfl (hb hby g4d1_84) rfl (XS.iloadN X16.here hx rfl (hb hby g4d1_85) rfl (XS.i2l X16.here hx rfl (hb hby g4d1_86) rfl (XS.lmul X16.here hx rfl (hb hby g4d1_87) rfl (XS.lstoreN X16.here hx rfl (hb hby g4d1_88) rfl (l' := #[.val (.ref ar), .val (.int p1), .val (.int (4 : Int32)), .val (.long (((((1 : Int64) * (p1).toInt64) * (p1).toInt64) * (p1).toInt64) * (p1).toInt64)), .second, .val (.int (3 : Int32))]) rfl (XT.iincV X16.here hx rfl (1 : Int32) (hb hby g4d1_89) (by decide) rfl (l' := #[.val (.ref ar), .val (.int p1), .val (.int (4 : Int32)), .val (.long (((((1 : Int64) * (p1).toInt64) * (p1).toInt64) * (p1).toInt64) * (p1).toInt64)), .second, .val (.int (4 : Int32))]) rfl (XS.goto X16.here hx rfl (pc0 := 92) (pc' := 53) rfl (hb hby g4d1_92) (by decide) (by decide) (XS.iload X16.here hx rfl (hb hby g4d1_53) rfl (XS.iloadN X16.here hx rfl (hb hby g4d1_55) rfl (XS.icmpYes X16.here hx rfl (pc0 := 56) (pc' := 95) rfl (hb hby g4d1_56) rfl (flt (by decide)).2.1 (by decide) (by decide) (XS.aloadN X16.here hx rfl (hb hby g4d1_95) rfl rfl (XS.iloadN X16.here hx rfl (hb hby g4d1_96) rfl k)))))))))))) ?_
  obtain ⟨T18, h18, X18, e18, W18, st18⟩ := putF X16 hx hZ hown (host := "") (Or.inl (hw _ (List.mem_of_getElem? (i := 15) rfl))) Via.refl e16 f17_2 f17_1 (Or.inr ⟨(hw _ (List.mem_of_getElem? (i := 16) rfl)), rfl, hnm⟩) (hw _ (List.mem_of_getElem? (i := 3) rfl)) (ty := .int) (by decide) rfl rfl (g := (mkF m 97 #[.val (.ref ar), .val (.int p1), .val (.int (4 : Int32)), .val (.long (((((1 : Int64) * (p1).toInt64) * (p1).toInt64) * (p1).toInt64) * (p1).toInt64)), .second, .val (.int (4 : Int32))] [(.int p1), (.ref ar)])) rfl rfl (hb hby g4d1_97)
  have Fw18 := f17_2.same W18
  have f19_0 := Nat.le_trans f17_0 (Keep.of_wr W18).1
  have f19_1 := f17_1.wr W18
  have f19_2 := f17_3.other W18 (Or.inr (slot_ne (Or.inr (hw _ (List.mem_of_getElem? (i := 18) rfl))) (Or.inr (hw _ (List.mem_of_getElem? (i := 16) rfl))) (by decide) (t := .int) (t' := .int) (by decide) (by decide)))
  have f19_3 := f17_4.other W18 (Or.inr (slot_ne (Or.inr (hw _ (List.mem_of_getElem? (i := 29) rfl))) (Or.inr (hw _ (List.mem_of_getElem? (i := 16) rfl))) (by decide) (t := .int) (t' := .int) (by decide) (by decide)))
  have f19_4 := f17_5.wr W18 (Or.inl (List.mem_of_getElem? (i := 0) rfl))
  have f19_5 := f17_6.other W18 (Or.inr (slot_ne (Or.inr (hw _ (List.mem_of_getElem? (i := 13) rfl))) (Or.inr (hw _ (List.mem_of_getElem? (i := 16) rfl))) (by decide) (t := (.array .long)) (t' := .int) (by decide) (by decide)))
  have f19_6 := V16.other W18 (Ne.symm ne_ar_b2)
  have N18 := Fr.snoc X18 N16 g_ar
  refine Wp.back (U' := (T18.setTop (mkF m 100 #[.val (.ref ar), .val (.int p1), .val (.int (4 : Int32)), .val (.long (((((1 : Int64) * (p1).toInt64) * (p1).toInt64) * (p1).toInt64) * (p1).toInt64)), .second, .val (.int (4 : Int32))] []))) st18 ?_
  refine Wp.back (U' := (T18.setTop (mkF m 102 #[.val (.ref ar), .val (.int p1), .val (.int (4 : Int32)), .val (.long (((((1 : Int64) * (p1).toInt64) * (p1).toInt64) * (p1).toInt64) * (p1).toInt64)), .second, .val (.int (4 : Int32))] [(.int (4 : Int32)), (.ref ar)]))) (fun t k => XS.aloadN X18.here hx rfl (hb hby g4d1_100) rfl rfl (XS.iloadN X18.here hx rfl (hb hby g4d1_101) rfl k)) ?_
  obtain ⟨T20, h20, X20, e20, W20, st20⟩ := putF X18 hx hZ hown (host := "") (Or.inl (hw _ (List.mem_of_getElem? (i := 17) rfl))) Via.refl e18 f19_2 f19_1 (Or.inr ⟨(hw _ (List.mem_of_getElem? (i := 18) rfl)), rfl, hnm⟩) (hw _ (List.mem_of_getElem? (i := 3) rfl)) (ty := .int) (by decide) rfl rfl (g := (mkF m 102 #[.val (.ref ar), .val (.int p1), .val (.int (4 : Int32)), .val (.long (((((1 : Int64) * (p1).toInt64) * (p1).toInt64) * (p1).toInt64) * (p1).toInt64)), .second, .val (.int (4 : Int32))] [(.int (4 : Int32)), (.ref ar)])) rfl rfl (hb hby g4d1_102)
  have Fw20 := f19_2.same W20
  have f21_0 := Nat.le_trans f19_0 (Keep.of_wr W20).1
  have f21_1 := f19_1.wr W20
  have f21_2 := f19_3.other W20 (Or.inr (slot_ne (Or.inr (hw _ (List.mem_of_getElem? (i := 29) rfl))) (Or.inr (hw _ (List.mem_of_getElem? (i := 18) rfl))) (by decide) (t := .int) (t' := .int) (by decide) (by decide)))
  have f21_3 := f19_4.wr W20 (Or.inl (List.mem_of_getElem? (i := 0) rfl))
  have f21_4 := f19_5.other W20 (Or.inr (slot_ne (Or.inr (hw _ (List.mem_of_getElem? (i := 13) rfl))) (Or.inr (hw _ (List.mem_of_getElem? (i := 18) rfl))) (by decide) (t := (.array .long)) (t' := .int) (by decide) (by decide)))
  have f21_5 := f19_6.other W20 (Ne.symm ne_ar_b2)
  have f21_6 := Fw18.other W20 (Or.inr (slot_ne (Or.inr (hw _ (List.mem_of_getElem? (i := 16) rfl))) (Or.inr (hw _ (List.mem_of_getElem? (i := 18) rfl))) (by decide) (t := .int) (t' := .int) (by decide) (by decide)))
  have N20 := Fr.snoc X20 N18 g_ar
  refine Wp.back (U' := (T20.setTop (mkF m 105 #[.val (.ref ar), .val (.int p1), .val (.int (4 : Int32)), .val (.long (((((1 : Int64) * (p1).toInt64) * (p1).toInt64) * (p1).toInt64) * (p1).toInt64)), .second, .val (.int (4 : Int32))] []))) st20 ?_
  refine Wp.back (U' := (T20.setTop (mkF m 111 #[.val (.ref ar), .val (.int p1), .val (.int (4 : Int32)), .val (.long (((((1 : Int64) * (p1).toInt64) * (p1).toInt64) * (p1).toInt64) * (p1).toInt64)), .second, .val (.int (4 : Int32))] [(.long ((((((1 : Int64) * (p1).toInt64) * (p1).toInt64) * (p1).toInt64) * (p1).toInt64) - (1 : Int64))), (.int (64 : Int32)), (.ref ar)]))) (fun t k => XS.aloadN X20.here hx rfl (hb hby g4d1_105) rfl rfl (XT.bipushV X20.here hx rfl (64 : Int32) (hb hby g4d1_106) (by decide) (XS.lloadN X20.here hx rfl (hb hby g4d1_108) rfl (XT.lconstV X20.here hx rfl (1 : Int64) (hb hby g4d1_109) (by decide) (XS.lsub X20.here hx rfl (hb hby g4d1_110) rfl k))))) ?_
  obtain ⟨_, _, ⟨T22, L22, k22, n22⟩, -, X22, ⟨Lc22, hQ22, l22, y22, z22⟩, st22⟩ := Jvm.LawKit.callS X20 hx (y := (⟨"java/lang/Long", "numberOfLeadingZeros", "(J)I"⟩ : MethodName)) hown (mvT hZ (hw _ (List.mem_of_getElem? (i := 19) rfl))) (mvT hZ (hw _ (List.mem_of_getElem? (i := 20) rfl))) (mvT hZ (hw _ (List.mem_of_getElem? (i := 21) rfl))) (mvT hZ (hw _ (List.mem_of_getElem? (i := 22) rfl))) (by decide) (backOf (W := 2) (rm_f_lnz l Z a0 hw [] ((((((1 : Int64) * (p1).toInt64) * (p1).toInt64) * (p1).toInt64) * (p1).toInt64) - (1 : Int64)) h20 n0 f21_0 ) hZ (hw _ (List.mem_of_getElem? (i := 22) rfl)) (hw _ (List.mem_of_getElem? (i := 21) rfl)) (by decide) (by decide)) (g := (mkF m 111 #[.val (.ref ar), .val (.int p1), .val (.int (4 : Int32)), .val (.long (((((1 : Int64) * (p1).toInt64) * (p1).toInt64) * (p1).toInt64) * (p1).toInt64)), .second, .val (.int (4 : Int32))] [(.long ((((((1 : Int64) * (p1).toInt64) * (p1).toInt64) * (p1).toInt64) * (p1).toInt64) - (1 : Int64))), (.int (64 : Int32)), (.ref ar)])) rfl (by rw [hml]; rfl) (argsL := [(.long ((((((1 : Int64) * (p1).toInt64) * (p1).toInt64) * (p1).toInt64) * (p1).toInt64) - (1 : Int64)))]) (rest := [(.int (64 : Int32)), (.ref ar)]) (lenOf g4pd1_0 rfl) rfl (by show 2 * 0 + _ ≤ _; exact Nat.le_of_eq rfl) (hb hby g4d1_111) (fun _ _ => ⟨rfl, e20, (by decide : 1 + 0 ≤ _), (by decide : 4 + 0 ≤ _)⟩)
  dsimp only [Pt.U, Pt.locs, Pt.cells, Pt.slots] at X22 l22 y22 z22 st22 hQ22
  subst l22 y22 z22
  obtain ⟨rfl, N22q, e22⟩ := hQ22
  have N22 := Fr.app N20 N22q
  refine Wp.back (U' := (T22.setTop (mkF m 114 #[.val (.ref ar), .val (.int p1), .val (.int (4 : Int32)), .val (.long (((((1 : Int64) * (p1).toInt64) * (p1).toInt64) * (p1).toInt64) * (p1).toInt64)), .second, .val (.int (4 : Int32))] [(.int (f_lnz ((((((1 : Int64) * (p1).toInt64) * (p1).toInt64) * (p1).toInt64) * (p1).toInt64) - (1 : Int64)))), (.int (64 : Int32)), (.ref ar)]))) st22 ?_
  refine Wp.back (U' := (T22.setTop (mkF m 115 #[.val (.ref ar), .val (.int p1), .val (.int (4 : Int32)), .val (.long (((((1 : Int64) * (p1).toInt64) * (p1).toInt64) * (p1).toInt64) * (p1).toInt64)), .second, .val (.int (4 : Int32))] [(.int ((64 : Int32) - (f_lnz ((((((1 : Int64) * (p1).toInt64) * (p1).toInt64) * (p1).toInt64) * (p1).toInt64) - (1 : Int64))))), (.ref ar)]))) (fun t k => XS.isub X22.here hx rfl (hb hby g4d1_114) rfl k) ?_
  obtain ⟨T23, h23, X23, e23, W23, st23⟩ := putF X22 hx hZ hown (host := "") (Or.inl (hw _ (List.mem_of_getElem? (i := 28) rfl))) Via.refl e22 f21_2 f21_1 (Or.inr ⟨(hw _ (List.mem_of_getElem? (i := 29) rfl)), rfl, hnm⟩) (hw _ (List.mem_of_getElem? (i := 3) rfl)) (ty := .int) (by decide) rfl rfl (g := (mkF m 115 #[.val (.ref ar), .val (.int p1), .val (.int (4 : Int32)), .val (.long (((((1 : Int64) * (p1).toInt64) * (p1).toInt64) * (p1).toInt64) * (p1).toInt64)), .second, .val (.int (4 : Int32))] [(.int ((64 : Int32) - (f_lnz ((((((1 : Int64) * (p1).toInt64) * (p1).toInt64) * (p1).toInt64) * (p1).toInt64) - (1 : Int64))))), (.ref ar)])) rfl rfl (hb hby g4d1_115)
  have Fw23 := f21_2.same W23
  have f24_0 := Nat.le_trans f21_0 (Keep.of_wr W23).1
  have f24_1 := f21_1.wr W23
  have f24_2 := f21_3.wr W23 (Or.inl (List.mem_of_getElem? (i := 0) rfl))
  have f24_3 := f21_4.other W23 (Or.inr (slot_ne (Or.inr (hw _ (List.mem_of_getElem? (i := 13) rfl))) (Or.inr (hw _ (List.mem_of_getElem? (i := 29) rfl))) (by decide) (t := (.array .long)) (t' := .int) (by decide) (by decide)))
  have f24_4 := f21_5.other W23 (Ne.symm ne_ar_b2)
  have f24_5 := f21_6.other W23 (Or.inr (slot_ne (Or.inr (hw _ (List.mem_of_getElem? (i := 16) rfl))) (Or.inr (hw _ (List.mem_of_getElem? (i := 29) rfl))) (by decide) (t := .int) (t' := .int) (by decide) (by decide)))
  have f24_6 := Fw20.other W23 (Or.inr (slot_ne (Or.inr (hw _ (List.mem_of_getElem? (i := 18) rfl))) (Or.inr (hw _ (List.mem_of_getElem? (i := 29) rfl))) (by decide) (t := .int) (t' := .int) (by decide) (by decide)))
  have N23 := Fr.snoc X23 N22 g_ar
  refine Wp.back (U' := (T23.setTop (mkF m 118 #[.val (.ref ar), .val (.int p1), .val (.int (4 : Int32)), .val (.long (((((1 : Int64) * (p1).toInt64) * (p1).toInt64) * (p1).toInt64) * (p1).toInt64)), .second, .val (.int (4 : Int32))] []))) st23 ?_
  obtain ⟨fs, hr, hrun, hended, hW, hsame⟩ := X23.leave (v := none) (fun _ => rfl)
  refine Wp.done (X23.returnOut hx hret (hb hby g4d1_118) hr) hrun hended ⟨_, _, rfl, ?_, ⟨_, rfl⟩, hW, hsame.mono (by decide) (by decide)⟩
  show Q_ini4 Z ar p1 h0 n0 _ T23.heap _
  rw [e23]
  exact ⟨rfl, N23, f24_2, f24_1, f24_6, Fw23⟩
def Q_by1 (Z : State) (ar : Addr) (q1 : Int64) (bb : Int32) (h0 : Heap) (n0 : Nat) (v : Option Value) (h : Heap) (L : List Loc) : Prop := v = some (.long ((((((q1 + (1 : Int64)) - (1 : Int64)) / (1 : Int64)) * (bb).toInt64) + (7 : Int64)) / (8 : Int64))) ∧ Fr n0 L ∧ Keep h0 h []
theorem g1d5_0 : decode prog_4_method_6_code 0 = .ok (.lload_n 1, 1) := by decide +kernel
theorem g1d5_1 : decode prog_4_method_6_code 1 = .ok (.aload_n 0, 1) := by decide +kernel
theorem g1d5_2 : decode prog_4_method_6_code 2 = .ok (.getfield 32, 3) := by decide +kernel
theorem g1d5_5 : decode prog_4_method_6_code 5 = .ok (.i2l, 1) := by decide +kernel
theorem g1d5_6 : decode prog_4_method_6_code 6 = .ok (.ladd, 1) := by decide +kernel
theorem g1d5_7 : decode prog_4_method_6_code 7 = .ok (.lconst 1, 1) := by decide +kernel
theorem g1d5_8 : decode prog_4_method_6_code 8 = .ok (.lsub, 1) := by decide +kernel
theorem g1d5_9 : decode prog_4_method_6_code 9 = .ok (.aload_n 0, 1) := by decide +kernel
theorem g1d5_10 : decode prog_4_method_6_code 10 = .ok (.getfield 32, 3) := by decide +kernel
theorem g1d5_13 : decode prog_4_method_6_code 13 = .ok (.i2l, 1) := by decide +kernel
theorem g1d5_14 : decode prog_4_method_6_code 14 = .ok (.ldiv, 1) := by decide +kernel
theorem g1d5_15 : decode prog_4_method_6_code 15 = .ok (.lstore_n 3, 1) := by decide +kernel
theorem g1d5_16 : decode prog_4_method_6_code 16 = .ok (.lload_n 3, 1) := by decide +kernel
theorem g1d5_17 : decode prog_4_method_6_code 17 = .ok (.aload_n 0, 1) := by decide +kernel
theorem g1d5_18 : decode prog_4_method_6_code 18 = .ok (.getfield 41, 3) := by decide +kernel
theorem g1d5_21 : decode prog_4_method_6_code 21 = .ok (.i2l, 1) := by decide +kernel
theorem g1d5_22 : decode prog_4_method_6_code 22 = .ok (.lmul, 1) := by decide +kernel
theorem g1d5_23 : decode prog_4_method_6_code 23 = .ok (.ldc2_w 48, 3) := by decide +kernel
theorem g1d5_26 : decode prog_4_method_6_code 26 = .ok (.ladd, 1) := by decide +kernel
theorem g1d5_27 : decode prog_4_method_6_code 27 = .ok (.ldc2_w 50, 3) := by decide +kernel
theorem g1d5_30 : decode prog_4_method_6_code 30 = .ok (.ldiv, 1) := by decide +kernel
theorem g1d5_31 : decode prog_4_method_6_code 31 = .ok (.lreturn, 1) := by decide +kernel
theorem g1pn5 : plainName "com/example/known_leaks/knownleaks/CellPacking" = true := by first | (simp [plainName, overriddenIn]; done) | decide +kernel
theorem g1ef5 (m : MethodId) (x0 : Addr) (x1 : Int64) : entryFrame m #[(.ref x0), (.long x1)] 5 = mkF m 0 #[.val (.ref x0), .val (.long x1), .second, .unset, .unset] [] := by first | (simp [entryFrame, mkF, argsToLocals, Value.category]; done) | rfl
set_option maxRecDepth 65536 in
set_option maxHeartbeats 40000000 in
theorem rm_by1 (l : Launch) (Z : State) (a0 : Array Value) (hw : ∀ d ∈ tables_1, d.before a0 Z = true) (ws : List Jvm.Cond) (ar : Addr) (q1 : Int64) (bb : Int32) (h0 : Heap) (n0 : Nat) (Z0 : n0 ≤ h0.size) (H0 : Fld Z h0 ar "com/example/known_leaks/knownleaks/CellPacking" "cellsPerBlock" "I" (.int (1 : Int32))) (H1 : Fld Z h0 ar "com/example/known_leaks/knownleaks/CellPacking" "blockBits" "I" (.int bb)) :
    MetFree l (⟨"com/example/known_leaks/knownleaks/CellPacking", "bytes", "(J)J"⟩ : MethodName) (head1 (Jvm.Cond.code (⟨"com/example/known_leaks/knownleaks/CellPacking", "bytes", "(J)J"⟩ : MethodName) prog_4_method_6_code 5 (some .long) :: ws) ({ frames := 0, cells := 0, slots := 0, locals := 0 } : Room)) (fun a U => a = #[(.ref ar), (.long q1)] ∧ Z.Warmed39 U.vm ∧ U.heap = h0) (fun _ _ _ _ _ => True) (fun _ U o U' => ∃ v L, o = .returned v ∧ Q_by1 Z ar q1 bb h0 n0 v U'.heap L ∧ FrameEnd U o U' L ({ frames := 0, cells := 0, slots := 0, locals := 0 } : Room).cells ({ frames := 0, cells := 0, slots := 0, locals := 0 } : Room).slots) := by
  refine MetFree.of_bodySF (plainFor_of_name g1pn5) hisR ?_
  intro p e s m args below meth c s₁ Bd hml0 hP hK
  obtain ⟨rfl, hZ, hh⟩ := hP
  have hx := Bd.exec
  have hby := Bd.bytes
  have hret := Bd.returns
  have hlk := Bd.notSynchronized
  have hml : c.maxLocals = 5 := hml0
  have hown : s.vm.findClass "com/example/known_leaks/knownleaks/CellPacking" = some m.cls := findClass_of_methodNamed Bd.named
  have hnm := (name_of_methodNamed Bd.named Bd.method).1
  have X0 : Stand p l e ({ frames := 0, cells := 0, slots := 0, locals := 0 } : Room) s m #[(.ref ar), (.long q1)] below meth c s₁ [] 0 0 := Stand.of_body Bd
  have e0 : s₁.heap = h0 := by rw [← hh, Bd.state]; rfl
  have N0 := Fr.nil n0
  show Wp p e below (fun o s₂ => ∃ v L, o = .returned v ∧ Q_by1 Z ar q1 bb h0 n0 v s₂.heap L ∧ FrameEnd s o s₂ L ({ frames := 0, cells := 0, slots := 0, locals := 0 } : Room).cells ({ frames := 0, cells := 0, slots := 0, locals := 0 } : Room).slots) _
  refine Wp.back (U' := (s₁.setTop (mkF m 0 #[.val (.ref ar), .val (.long q1), .second, .unset, .unset] []))) (fun t k => castTop (g1ef5 m ar q1) k) ?_
  refine Wp.back (U' := (s₁.setTop (mkF m 2 #[.val (.ref ar), .val (.long q1), .second, .unset, .unset] [(.ref ar), (.long q1)]))) (fun t k => XS.lloadN X0.here hx rfl (hb hby g1d5_0) rfl (XS.aloadN X0.here hx rfl (hb hby g1d5_1) rfl rfl k)) ?_
  obtain ⟨T1, X1, e1, st1⟩ := getF X0 hx hZ hown (host := "") (Or.inl (hw _ (List.mem_of_getElem? (i := 17) rfl))) Via.refl e0 H0 (g := (mkF m 2 #[.val (.ref ar), .val (.long q1), .second, .unset, .unset] [(.ref ar), (.long q1)])) rfl rfl (hb hby g1d5_2)
  refine Wp.back (U' := (T1.setTop (mkF m 5 #[.val (.ref ar), .val (.long q1), .second, .unset, .unset] [(.int (1 : Int32)), (.long q1)]))) st1 ?_
  refine Wp.back (U' := (T1.setTop (mkF m 10 #[.val (.ref ar), .val (.long q1), .second, .unset, .unset] [(.ref ar), (.long ((q1 + (1 : Int64)) - (1 : Int64)))]))) (fun t k => XS.i2l X1.here hx rfl (hb hby g1d5_5) rfl (XS.ladd X1.here hx rfl (hb hby g1d5_6) rfl (XT.lconstV X1.here hx rfl (1 : Int64) (hb hby g1d5_7) (by decide) (XS.lsub X1.here hx rfl (hb hby g1d5_8) rfl (XS.aloadN X1.here hx rfl (hb hby g1d5_9) rfl rfl k))))) ?_
  obtain ⟨T2, X2, e2, st2⟩ := getF X1 hx hZ hown (host := "") (Or.inl (hw _ (List.mem_of_getElem? (i := 17) rfl))) Via.refl e1 H0 (g := (mkF m 10 #[.val (.ref ar), .val (.long q1), .second, .unset, .unset] [(.ref ar), (.long ((q1 + (1 : Int64)) - (1 : Int64)))])) rfl rfl (hb hby g1d5_10)
  refine Wp.back (U' := (T2.setTop (mkF m 13 #[.val (.ref ar), .val (.long q1), .second, .unset, .unset] [(.int (1 : Int32)), (.long ((q1 + (1 : Int64)) - (1 : Int64)))]))) st2 ?_
  refine Wp.back (U' := (T2.setTop (mkF m 18 #[.val (.ref ar), .val (.long q1), .second, .val (.long (((q1 + (1 : Int64)) - (1 : Int64)) / (1 : Int64))), .second] [(.ref ar), (.long (((q1 + (1 : Int64)) - (1 : Int64)) / (1 : Int64)))]))) (fun t k => XS.i2l X2.here hx rfl (hb hby g1d5_13) rfl (XS.ldiv X2.here hx rfl (hb hby g1d5_14) rfl (by decide) (XS.lstoreN X2.here hx rfl (hb hby g1d5_15) rfl (l' := #[.val (.ref ar), .val (.long q1), .second, .val (.long (((q1 + (1 : Int64)) - (1 : Int64)) / (1 : Int64))), .second]) rfl (XS.lloadN X2.here hx rfl (hb hby g1d5_16) rfl (XS.aloadN X2.here hx rfl (hb hby g1d5_17) rfl rfl k))))) ?_
  obtain ⟨T3, X3, e3, st3⟩ := getF X2 hx hZ hown (host := "") (Or.inl (hw _ (List.mem_of_getElem? (i := 28) rfl))) Via.refl e2 H1 (g := (mkF m 18 #[.val (.ref ar), .val (.long q1), .second, .val (.long (((q1 + (1 : Int64)) - (1 : Int64)) / (1 : Int64))), .second] [(.ref ar), (.long (((q1 + (1 : Int64)) - (1 : Int64)) / (1 : Int64)))])) rfl rfl (hb hby g1d5_18)
  refine Wp.back (U' := (T3.setTop (mkF m 21 #[.val (.ref ar), .val (.long q1), .second, .val (.long (((q1 + (1 : Int64)) - (1 : Int64)) / (1 : Int64))), .second] [(.int bb), (.long (((q1 + (1 : Int64)) - (1 : Int64)) / (1 : Int64)))]))) st3 ?_
  refine Wp.back (U' := (T3.setTop (mkF m 31 #[.val (.ref ar), .val (.long q1), .second, .val (.long (((q1 + (1 : Int64)) - (1 : Int64)) / (1 : Int64))), .second] [(.long ((((((q1 + (1 : Int64)) - (1 : Int64)) / (1 : Int64)) * (bb).toInt64) + (7 : Int64)) / (8 : Int64)))]))) (fun t k => XS.i2l X3.here hx rfl (hb hby g1d5_21) rfl (XS.lmul X3.here hx rfl (hb hby g1d5_22) rfl (Jvm.Stand.ldc2J X3 hx hown (mvT hZ (hw _ (List.mem_of_getElem? (i := 36) rfl))) rfl (hb hby g1d5_23) (XS.ladd X3.here hx rfl (hb hby g1d5_26) rfl (Jvm.Stand.ldc2J X3 hx hown (mvT hZ (hw _ (List.mem_of_getElem? (i := 37) rfl))) rfl (hb hby g1d5_27) (XS.ldiv X3.here hx rfl (hb hby g1d5_30) rfl (by decide) k)))))) ?_
  obtain ⟨fs, hr, hrun, hended, hW, hsame⟩ := X3.leave (v := (some (.long ((((((q1 + (1 : Int64)) - (1 : Int64)) / (1 : Int64)) * (bb).toInt64) + (7 : Int64)) / (8 : Int64))))) (fun h => by rw [hret] at h; cases h)
  refine Wp.done (retOut X3 hx hret rfl (Or.inr (Or.inl ⟨rfl, rfl, _, rfl⟩)) (hb hby g1d5_31) hr) hrun hended ⟨_, _, rfl, ?_, ⟨_, rfl⟩, hW, hsame.mono (by decide) (by decide)⟩
  show Q_by1 Z ar q1 bb h0 n0 _ T3.heap _
  rw [e3]
  exact ⟨rfl, N0, (Keep.refl h0 [])⟩
def Q_be1 (Z : State) (ar : Addr) (bb : Int32) (h0 : Heap) (n0 : Nat) (v : Option Value) (h : Heap) (L : List Loc) : Prop := v = some (.long ((((8 : Int64) * (bb).toInt64) + (7 : Int64)) / (8 : Int64))) ∧ Fr n0 L ∧ Keep h0 h []
theorem e1d5_0 : decode prog_4_method_6_code 0 = .ok (.lload_n 1, 1) := by decide +kernel
theorem e1d5_1 : decode prog_4_method_6_code 1 = .ok (.aload_n 0, 1) := by decide +kernel
theorem e1d5_2 : decode prog_4_method_6_code 2 = .ok (.getfield 32, 3) := by decide +kernel
theorem e1d5_5 : decode prog_4_method_6_code 5 = .ok (.i2l, 1) := by decide +kernel
theorem e1d5_6 : decode prog_4_method_6_code 6 = .ok (.ladd, 1) := by decide +kernel
theorem e1d5_7 : decode prog_4_method_6_code 7 = .ok (.lconst 1, 1) := by decide +kernel
theorem e1d5_8 : decode prog_4_method_6_code 8 = .ok (.lsub, 1) := by decide +kernel
theorem e1d5_9 : decode prog_4_method_6_code 9 = .ok (.aload_n 0, 1) := by decide +kernel
theorem e1d5_10 : decode prog_4_method_6_code 10 = .ok (.getfield 32, 3) := by decide +kernel
theorem e1d5_13 : decode prog_4_method_6_code 13 = .ok (.i2l, 1) := by decide +kernel
theorem e1d5_14 : decode prog_4_method_6_code 14 = .ok (.ldiv, 1) := by decide +kernel
theorem e1d5_15 : decode prog_4_method_6_code 15 = .ok (.lstore_n 3, 1) := by decide +kernel
theorem e1d5_16 : decode prog_4_method_6_code 16 = .ok (.lload_n 3, 1) := by decide +kernel
theorem e1d5_17 : decode prog_4_method_6_code 17 = .ok (.aload_n 0, 1) := by decide +kernel
theorem e1d5_18 : decode prog_4_method_6_code 18 = .ok (.getfield 41, 3) := by decide +kernel
theorem e1d5_21 : decode prog_4_method_6_code 21 = .ok (.i2l, 1) := by decide +kernel
theorem e1d5_22 : decode prog_4_method_6_code 22 = .ok (.lmul, 1) := by decide +kernel
theorem e1d5_23 : decode prog_4_method_6_code 23 = .ok (.ldc2_w 48, 3) := by decide +kernel
theorem e1d5_26 : decode prog_4_method_6_code 26 = .ok (.ladd, 1) := by decide +kernel
theorem e1d5_27 : decode prog_4_method_6_code 27 = .ok (.ldc2_w 50, 3) := by decide +kernel
theorem e1d5_30 : decode prog_4_method_6_code 30 = .ok (.ldiv, 1) := by decide +kernel
theorem e1d5_31 : decode prog_4_method_6_code 31 = .ok (.lreturn, 1) := by decide +kernel
theorem e1pn5 : plainName "com/example/known_leaks/knownleaks/CellPacking" = true := by first | (simp [plainName, overriddenIn]; done) | decide +kernel
theorem e1ef5 (m : MethodId) (x0 : Addr) (x1 : Int64) : entryFrame m #[(.ref x0), (.long x1)] 5 = mkF m 0 #[.val (.ref x0), .val (.long x1), .second, .unset, .unset] [] := by first | (simp [entryFrame, mkF, argsToLocals, Value.category]; done) | rfl
set_option maxRecDepth 65536 in
set_option maxHeartbeats 40000000 in
theorem rm_be1 (l : Launch) (Z : State) (a0 : Array Value) (hw : ∀ d ∈ tables_1, d.before a0 Z = true) (ws : List Jvm.Cond) (ar : Addr) (bb : Int32) (h0 : Heap) (n0 : Nat) (Z0 : n0 ≤ h0.size) (H0 : Fld Z h0 ar "com/example/known_leaks/knownleaks/CellPacking" "cellsPerBlock" "I" (.int (1 : Int32))) (H1 : Fld Z h0 ar "com/example/known_leaks/knownleaks/CellPacking" "blockBits" "I" (.int bb)) :
    MetFree l (⟨"com/example/known_leaks/knownleaks/CellPacking", "bytes", "(J)J"⟩ : MethodName) (head1 (Jvm.Cond.code (⟨"com/example/known_leaks/knownleaks/CellPacking", "bytes", "(J)J"⟩ : MethodName) prog_4_method_6_code 5 (some .long) :: ws) ({ frames := 0, cells := 0, slots := 0, locals := 0 } : Room)) (fun a U => a = #[(.ref ar), (.long (8 : Int64))] ∧ Z.Warmed39 U.vm ∧ U.heap = h0) (fun _ _ _ _ _ => True) (fun _ U o U' => ∃ v L, o = .returned v ∧ Q_be1 Z ar bb h0 n0 v U'.heap L ∧ FrameEnd U o U' L ({ frames := 0, cells := 0, slots := 0, locals := 0 } : Room).cells ({ frames := 0, cells := 0, slots := 0, locals := 0 } : Room).slots) := by
  refine MetFree.of_bodySF (plainFor_of_name e1pn5) hisR ?_
  intro p e s m args below meth c s₁ Bd hml0 hP hK
  obtain ⟨rfl, hZ, hh⟩ := hP
  have hx := Bd.exec
  have hby := Bd.bytes
  have hret := Bd.returns
  have hlk := Bd.notSynchronized
  have hml : c.maxLocals = 5 := hml0
  have hown : s.vm.findClass "com/example/known_leaks/knownleaks/CellPacking" = some m.cls := findClass_of_methodNamed Bd.named
  have hnm := (name_of_methodNamed Bd.named Bd.method).1
  have X0 : Stand p l e ({ frames := 0, cells := 0, slots := 0, locals := 0 } : Room) s m #[(.ref ar), (.long (8 : Int64))] below meth c s₁ [] 0 0 := Stand.of_body Bd
  have e0 : s₁.heap = h0 := by rw [← hh, Bd.state]; rfl
  have N0 := Fr.nil n0
  show Wp p e below (fun o s₂ => ∃ v L, o = .returned v ∧ Q_be1 Z ar bb h0 n0 v s₂.heap L ∧ FrameEnd s o s₂ L ({ frames := 0, cells := 0, slots := 0, locals := 0 } : Room).cells ({ frames := 0, cells := 0, slots := 0, locals := 0 } : Room).slots) _
  refine Wp.back (U' := (s₁.setTop (mkF m 0 #[.val (.ref ar), .val (.long (8 : Int64)), .second, .unset, .unset] []))) (fun t k => castTop (e1ef5 m ar (8 : Int64)) k) ?_
  refine Wp.back (U' := (s₁.setTop (mkF m 2 #[.val (.ref ar), .val (.long (8 : Int64)), .second, .unset, .unset] [(.ref ar), (.long (8 : Int64))]))) (fun t k => XS.lloadN X0.here hx rfl (hb hby e1d5_0) rfl (XS.aloadN X0.here hx rfl (hb hby e1d5_1) rfl rfl k)) ?_
  obtain ⟨T1, X1, e1, st1⟩ := getF X0 hx hZ hown (host := "") (Or.inl (hw _ (List.mem_of_getElem? (i := 17) rfl))) Via.refl e0 H0 (g := (mkF m 2 #[.val (.ref ar), .val (.long (8 : Int64)), .second, .unset, .unset] [(.ref ar), (.long (8 : Int64))])) rfl rfl (hb hby e1d5_2)
  refine Wp.back (U' := (T1.setTop (mkF m 5 #[.val (.ref ar), .val (.long (8 : Int64)), .second, .unset, .unset] [(.int (1 : Int32)), (.long (8 : Int64))]))) st1 ?_
  refine Wp.back (U' := (T1.setTop (mkF m 10 #[.val (.ref ar), .val (.long (8 : Int64)), .second, .unset, .unset] [(.ref ar), (.long (8 : Int64))]))) (fun t k => XS.i2l X1.here hx rfl (hb hby e1d5_5) rfl (XS.ladd X1.here hx rfl (hb hby e1d5_6) rfl (XT.lconstV X1.here hx rfl (1 : Int64) (hb hby e1d5_7) (by decide) (XS.lsub X1.here hx rfl (hb hby e1d5_8) rfl (XS.aloadN X1.here hx rfl (hb hby e1d5_9) rfl rfl k))))) ?_
  obtain ⟨T2, X2, e2, st2⟩ := getF X1 hx hZ hown (host := "") (Or.inl (hw _ (List.mem_of_getElem? (i := 17) rfl))) Via.refl e1 H0 (g := (mkF m 10 #[.val (.ref ar), .val (.long (8 : Int64)), .second, .unset, .unset] [(.ref ar), (.long (8 : Int64))])) rfl rfl (hb hby e1d5_10)
  refine Wp.back (U' := (T2.setTop (mkF m 13 #[.val (.ref ar), .val (.long (8 : Int64)), .second, .unset, .unset] [(.int (1 : Int32)), (.long (8 : Int64))]))) st2 ?_
  refine Wp.back (U' := (T2.setTop (mkF m 18 #[.val (.ref ar), .val (.long (8 : Int64)), .second, .val (.long (8 : Int64)), .second] [(.ref ar), (.long (8 : Int64))]))) (fun t k => XS.i2l X2.here hx rfl (hb hby e1d5_13) rfl (XS.ldiv X2.here hx rfl (hb hby e1d5_14) rfl (by decide) (XS.lstoreN X2.here hx rfl (hb hby e1d5_15) rfl (l' := #[.val (.ref ar), .val (.long (8 : Int64)), .second, .val (.long (8 : Int64)), .second]) rfl (XS.lloadN X2.here hx rfl (hb hby e1d5_16) rfl (XS.aloadN X2.here hx rfl (hb hby e1d5_17) rfl rfl k))))) ?_
  obtain ⟨T3, X3, e3, st3⟩ := getF X2 hx hZ hown (host := "") (Or.inl (hw _ (List.mem_of_getElem? (i := 28) rfl))) Via.refl e2 H1 (g := (mkF m 18 #[.val (.ref ar), .val (.long (8 : Int64)), .second, .val (.long (8 : Int64)), .second] [(.ref ar), (.long (8 : Int64))])) rfl rfl (hb hby e1d5_18)
  refine Wp.back (U' := (T3.setTop (mkF m 21 #[.val (.ref ar), .val (.long (8 : Int64)), .second, .val (.long (8 : Int64)), .second] [(.int bb), (.long (8 : Int64))]))) st3 ?_
  refine Wp.back (U' := (T3.setTop (mkF m 31 #[.val (.ref ar), .val (.long (8 : Int64)), .second, .val (.long (8 : Int64)), .second] [(.long ((((8 : Int64) * (bb).toInt64) + (7 : Int64)) / (8 : Int64)))]))) (fun t k => XS.i2l X3.here hx rfl (hb hby e1d5_21) rfl (XS.lmul X3.here hx rfl (hb hby e1d5_22) rfl (Jvm.Stand.ldc2J X3 hx hown (mvT hZ (hw _ (List.mem_of_getElem? (i := 36) rfl))) rfl (hb hby e1d5_23) (XS.ladd X3.here hx rfl (hb hby e1d5_26) rfl (Jvm.Stand.ldc2J X3 hx hown (mvT hZ (hw _ (List.mem_of_getElem? (i := 37) rfl))) rfl (hb hby e1d5_27) (XS.ldiv X3.here hx rfl (hb hby e1d5_30) rfl (by decide) k)))))) ?_
  obtain ⟨fs, hr, hrun, hended, hW, hsame⟩ := X3.leave (v := (some (.long ((((8 : Int64) * (bb).toInt64) + (7 : Int64)) / (8 : Int64))))) (fun h => by rw [hret] at h; cases h)
  refine Wp.done (retOut X3 hx hret rfl (Or.inr (Or.inl ⟨rfl, rfl, _, rfl⟩)) (hb hby e1d5_31) hr) hrun hended ⟨_, _, rfl, ?_, ⟨_, rfl⟩, hW, hsame.mono (by decide) (by decide)⟩
  show Q_be1 Z ar bb h0 n0 _ T3.heap _
  rw [e3]
  exact ⟨rfl, N0, (Keep.refl h0 [])⟩
def Q_by2 (Z : State) (ar : Addr) (q1 : Int64) (bb : Int32) (h0 : Heap) (n0 : Nat) (v : Option Value) (h : Heap) (L : List Loc) : Prop := v = some (.long ((((((q1 + (2 : Int64)) - (1 : Int64)) / (2 : Int64)) * (bb).toInt64) + (7 : Int64)) / (8 : Int64))) ∧ Fr n0 L ∧ Keep h0 h []
theorem g2d5_0 : decode prog_4_method_6_code 0 = .ok (.lload_n 1, 1) := by decide +kernel
theorem g2d5_1 : decode prog_4_method_6_code 1 = .ok (.aload_n 0, 1) := by decide +kernel
theorem g2d5_2 : decode prog_4_method_6_code 2 = .ok (.getfield 32, 3) := by decide +kernel
theorem g2d5_5 : decode prog_4_method_6_code 5 = .ok (.i2l, 1) := by decide +kernel
theorem g2d5_6 : decode prog_4_method_6_code 6 = .ok (.ladd, 1) := by decide +kernel
theorem g2d5_7 : decode prog_4_method_6_code 7 = .ok (.lconst 1, 1) := by decide +kernel
theorem g2d5_8 : decode prog_4_method_6_code 8 = .ok (.lsub, 1) := by decide +kernel
theorem g2d5_9 : decode prog_4_method_6_code 9 = .ok (.aload_n 0, 1) := by decide +kernel
theorem g2d5_10 : decode prog_4_method_6_code 10 = .ok (.getfield 32, 3) := by decide +kernel
theorem g2d5_13 : decode prog_4_method_6_code 13 = .ok (.i2l, 1) := by decide +kernel
theorem g2d5_14 : decode prog_4_method_6_code 14 = .ok (.ldiv, 1) := by decide +kernel
theorem g2d5_15 : decode prog_4_method_6_code 15 = .ok (.lstore_n 3, 1) := by decide +kernel
theorem g2d5_16 : decode prog_4_method_6_code 16 = .ok (.lload_n 3, 1) := by decide +kernel
theorem g2d5_17 : decode prog_4_method_6_code 17 = .ok (.aload_n 0, 1) := by decide +kernel
theorem g2d5_18 : decode prog_4_method_6_code 18 = .ok (.getfield 41, 3) := by decide +kernel
theorem g2d5_21 : decode prog_4_method_6_code 21 = .ok (.i2l, 1) := by decide +kernel
theorem g2d5_22 : decode prog_4_method_6_code 22 = .ok (.lmul, 1) := by decide +kernel
theorem g2d5_23 : decode prog_4_method_6_code 23 = .ok (.ldc2_w 48, 3) := by decide +kernel
theorem g2d5_26 : decode prog_4_method_6_code 26 = .ok (.ladd, 1) := by decide +kernel
theorem g2d5_27 : decode prog_4_method_6_code 27 = .ok (.ldc2_w 50, 3) := by decide +kernel
theorem g2d5_30 : decode prog_4_method_6_code 30 = .ok (.ldiv, 1) := by decide +kernel
theorem g2d5_31 : decode prog_4_method_6_code 31 = .ok (.lreturn, 1) := by decide +kernel
theorem g2pn5 : plainName "com/example/known_leaks/knownleaks/CellPacking" = true := by first | (simp [plainName, overriddenIn]; done) | decide +kernel
theorem g2ef5 (m : MethodId) (x0 : Addr) (x1 : Int64) : entryFrame m #[(.ref x0), (.long x1)] 5 = mkF m 0 #[.val (.ref x0), .val (.long x1), .second, .unset, .unset] [] := by first | (simp [entryFrame, mkF, argsToLocals, Value.category]; done) | rfl
set_option maxRecDepth 65536 in
set_option maxHeartbeats 40000000 in
theorem rm_by2 (l : Launch) (Z : State) (a0 : Array Value) (hw : ∀ d ∈ tables_1, d.before a0 Z = true) (ws : List Jvm.Cond) (ar : Addr) (q1 : Int64) (bb : Int32) (h0 : Heap) (n0 : Nat) (Z0 : n0 ≤ h0.size) (H0 : Fld Z h0 ar "com/example/known_leaks/knownleaks/CellPacking" "cellsPerBlock" "I" (.int (2 : Int32))) (H1 : Fld Z h0 ar "com/example/known_leaks/knownleaks/CellPacking" "blockBits" "I" (.int bb)) :
    MetFree l (⟨"com/example/known_leaks/knownleaks/CellPacking", "bytes", "(J)J"⟩ : MethodName) (head1 (Jvm.Cond.code (⟨"com/example/known_leaks/knownleaks/CellPacking", "bytes", "(J)J"⟩ : MethodName) prog_4_method_6_code 5 (some .long) :: ws) ({ frames := 0, cells := 0, slots := 0, locals := 0 } : Room)) (fun a U => a = #[(.ref ar), (.long q1)] ∧ Z.Warmed39 U.vm ∧ U.heap = h0) (fun _ _ _ _ _ => True) (fun _ U o U' => ∃ v L, o = .returned v ∧ Q_by2 Z ar q1 bb h0 n0 v U'.heap L ∧ FrameEnd U o U' L ({ frames := 0, cells := 0, slots := 0, locals := 0 } : Room).cells ({ frames := 0, cells := 0, slots := 0, locals := 0 } : Room).slots) := by
  refine MetFree.of_bodySF (plainFor_of_name g2pn5) hisR ?_
  intro p e s m args below meth c s₁ Bd hml0 hP hK
  obtain ⟨rfl, hZ, hh⟩ := hP
  have hx := Bd.exec
  have hby := Bd.bytes
  have hret := Bd.returns
  have hlk := Bd.notSynchronized
  have hml : c.maxLocals = 5 := hml0
  have hown : s.vm.findClass "com/example/known_leaks/knownleaks/CellPacking" = some m.cls := findClass_of_methodNamed Bd.named
  have hnm := (name_of_methodNamed Bd.named Bd.method).1
  have X0 : Stand p l e ({ frames := 0, cells := 0, slots := 0, locals := 0 } : Room) s m #[(.ref ar), (.long q1)] below meth c s₁ [] 0 0 := Stand.of_body Bd
  have e0 : s₁.heap = h0 := by rw [← hh, Bd.state]; rfl
  have N0 := Fr.nil n0
  show Wp p e below (fun o s₂ => ∃ v L, o = .returned v ∧ Q_by2 Z ar q1 bb h0 n0 v s₂.heap L ∧ FrameEnd s o s₂ L ({ frames := 0, cells := 0, slots := 0, locals := 0 } : Room).cells ({ frames := 0, cells := 0, slots := 0, locals := 0 } : Room).slots) _
  refine Wp.back (U' := (s₁.setTop (mkF m 0 #[.val (.ref ar), .val (.long q1), .second, .unset, .unset] []))) (fun t k => castTop (g2ef5 m ar q1) k) ?_
  refine Wp.back (U' := (s₁.setTop (mkF m 2 #[.val (.ref ar), .val (.long q1), .second, .unset, .unset] [(.ref ar), (.long q1)]))) (fun t k => XS.lloadN X0.here hx rfl (hb hby g2d5_0) rfl (XS.aloadN X0.here hx rfl (hb hby g2d5_1) rfl rfl k)) ?_
  obtain ⟨T1, X1, e1, st1⟩ := getF X0 hx hZ hown (host := "") (Or.inl (hw _ (List.mem_of_getElem? (i := 17) rfl))) Via.refl e0 H0 (g := (mkF m 2 #[.val (.ref ar), .val (.long q1), .second, .unset, .unset] [(.ref ar), (.long q1)])) rfl rfl (hb hby g2d5_2)
  refine Wp.back (U' := (T1.setTop (mkF m 5 #[.val (.ref ar), .val (.long q1), .second, .unset, .unset] [(.int (2 : Int32)), (.long q1)]))) st1 ?_
  refine Wp.back (U' := (T1.setTop (mkF m 10 #[.val (.ref ar), .val (.long q1), .second, .unset, .unset] [(.ref ar), (.long ((q1 + (2 : Int64)) - (1 : Int64)))]))) (fun t k => XS.i2l X1.here hx rfl (hb hby g2d5_5) rfl (XS.ladd X1.here hx rfl (hb hby g2d5_6) rfl (XT.lconstV X1.here hx rfl (1 : Int64) (hb hby g2d5_7) (by decide) (XS.lsub X1.here hx rfl (hb hby g2d5_8) rfl (XS.aloadN X1.here hx rfl (hb hby g2d5_9) rfl rfl k))))) ?_
  obtain ⟨T2, X2, e2, st2⟩ := getF X1 hx hZ hown (host := "") (Or.inl (hw _ (List.mem_of_getElem? (i := 17) rfl))) Via.refl e1 H0 (g := (mkF m 10 #[.val (.ref ar), .val (.long q1), .second, .unset, .unset] [(.ref ar), (.long ((q1 + (2 : Int64)) - (1 : Int64)))])) rfl rfl (hb hby g2d5_10)
  refine Wp.back (U' := (T2.setTop (mkF m 13 #[.val (.ref ar), .val (.long q1), .second, .unset, .unset] [(.int (2 : Int32)), (.long ((q1 + (2 : Int64)) - (1 : Int64)))]))) st2 ?_
  refine Wp.back (U' := (T2.setTop (mkF m 18 #[.val (.ref ar), .val (.long q1), .second, .val (.long (((q1 + (2 : Int64)) - (1 : Int64)) / (2 : Int64))), .second] [(.ref ar), (.long (((q1 + (2 : Int64)) - (1 : Int64)) / (2 : Int64)))]))) (fun t k => XS.i2l X2.here hx rfl (hb hby g2d5_13) rfl (XS.ldiv X2.here hx rfl (hb hby g2d5_14) rfl (by decide) (XS.lstoreN X2.here hx rfl (hb hby g2d5_15) rfl (l' := #[.val (.ref ar), .val (.long q1), .second, .val (.long (((q1 + (2 : Int64)) - (1 : Int64)) / (2 : Int64))), .second]) rfl (XS.lloadN X2.here hx rfl (hb hby g2d5_16) rfl (XS.aloadN X2.here hx rfl (hb hby g2d5_17) rfl rfl k))))) ?_
  obtain ⟨T3, X3, e3, st3⟩ := getF X2 hx hZ hown (host := "") (Or.inl (hw _ (List.mem_of_getElem? (i := 28) rfl))) Via.refl e2 H1 (g := (mkF m 18 #[.val (.ref ar), .val (.long q1), .second, .val (.long (((q1 + (2 : Int64)) - (1 : Int64)) / (2 : Int64))), .second] [(.ref ar), (.long (((q1 + (2 : Int64)) - (1 : Int64)) / (2 : Int64)))])) rfl rfl (hb hby g2d5_18)
  refine Wp.back (U' := (T3.setTop (mkF m 21 #[.val (.ref ar), .val (.long q1), .second, .val (.long (((q1 + (2 : Int64)) - (1 : Int64)) / (2 : Int64))), .second] [(.int bb), (.long (((q1 + (2 : Int64)) - (1 : Int64)) / (2 : Int64)))]))) st3 ?_
  refine Wp.back (U' := (T3.setTop (mkF m 31 #[.val (.ref ar), .val (.long q1), .second, .val (.long (((q1 + (2 : Int64)) - (1 : Int64)) / (2 : Int64))), .second] [(.long ((((((q1 + (2 : Int64)) - (1 : Int64)) / (2 : Int64)) * (bb).toInt64) + (7 : Int64)) / (8 : Int64)))]))) (fun t k => XS.i2l X3.here hx rfl (hb hby g2d5_21) rfl (XS.lmul X3.here hx rfl (hb hby g2d5_22) rfl (Jvm.Stand.ldc2J X3 hx hown (mvT hZ (hw _ (List.mem_of_getElem? (i := 36) rfl))) rfl (hb hby g2d5_23) (XS.ladd X3.here hx rfl (hb hby g2d5_26) rfl (Jvm.Stand.ldc2J X3 hx hown (mvT hZ (hw _ (List.mem_of_getElem? (i := 37) rfl))) rfl (hb hby g2d5_27) (XS.ldiv X3.here hx rfl (hb hby g2d5_30) rfl (by decide) k)))))) ?_
  obtain ⟨fs, hr, hrun, hended, hW, hsame⟩ := X3.leave (v := (some (.long ((((((q1 + (2 : Int64)) - (1 : Int64)) / (2 : Int64)) * (bb).toInt64) + (7 : Int64)) / (8 : Int64))))) (fun h => by rw [hret] at h; cases h)
  refine Wp.done (retOut X3 hx hret rfl (Or.inr (Or.inl ⟨rfl, rfl, _, rfl⟩)) (hb hby g2d5_31) hr) hrun hended ⟨_, _, rfl, ?_, ⟨_, rfl⟩, hW, hsame.mono (by decide) (by decide)⟩
  show Q_by2 Z ar q1 bb h0 n0 _ T3.heap _
  rw [e3]
  exact ⟨rfl, N0, (Keep.refl h0 [])⟩
def Q_be2 (Z : State) (ar : Addr) (bb : Int32) (h0 : Heap) (n0 : Nat) (v : Option Value) (h : Heap) (L : List Loc) : Prop := v = some (.long ((((8 : Int64) * (bb).toInt64) + (7 : Int64)) / (8 : Int64))) ∧ Fr n0 L ∧ Keep h0 h []
theorem e2d5_0 : decode prog_4_method_6_code 0 = .ok (.lload_n 1, 1) := by decide +kernel
theorem e2d5_1 : decode prog_4_method_6_code 1 = .ok (.aload_n 0, 1) := by decide +kernel
theorem e2d5_2 : decode prog_4_method_6_code 2 = .ok (.getfield 32, 3) := by decide +kernel
theorem e2d5_5 : decode prog_4_method_6_code 5 = .ok (.i2l, 1) := by decide +kernel
theorem e2d5_6 : decode prog_4_method_6_code 6 = .ok (.ladd, 1) := by decide +kernel
theorem e2d5_7 : decode prog_4_method_6_code 7 = .ok (.lconst 1, 1) := by decide +kernel
theorem e2d5_8 : decode prog_4_method_6_code 8 = .ok (.lsub, 1) := by decide +kernel
theorem e2d5_9 : decode prog_4_method_6_code 9 = .ok (.aload_n 0, 1) := by decide +kernel
theorem e2d5_10 : decode prog_4_method_6_code 10 = .ok (.getfield 32, 3) := by decide +kernel
theorem e2d5_13 : decode prog_4_method_6_code 13 = .ok (.i2l, 1) := by decide +kernel
theorem e2d5_14 : decode prog_4_method_6_code 14 = .ok (.ldiv, 1) := by decide +kernel
theorem e2d5_15 : decode prog_4_method_6_code 15 = .ok (.lstore_n 3, 1) := by decide +kernel
theorem e2d5_16 : decode prog_4_method_6_code 16 = .ok (.lload_n 3, 1) := by decide +kernel
theorem e2d5_17 : decode prog_4_method_6_code 17 = .ok (.aload_n 0, 1) := by decide +kernel
theorem e2d5_18 : decode prog_4_method_6_code 18 = .ok (.getfield 41, 3) := by decide +kernel
theorem e2d5_21 : decode prog_4_method_6_code 21 = .ok (.i2l, 1) := by decide +kernel
theorem e2d5_22 : decode prog_4_method_6_code 22 = .ok (.lmul, 1) := by decide +kernel
theorem e2d5_23 : decode prog_4_method_6_code 23 = .ok (.ldc2_w 48, 3) := by decide +kernel
theorem e2d5_26 : decode prog_4_method_6_code 26 = .ok (.ladd, 1) := by decide +kernel
theorem e2d5_27 : decode prog_4_method_6_code 27 = .ok (.ldc2_w 50, 3) := by decide +kernel
theorem e2d5_30 : decode prog_4_method_6_code 30 = .ok (.ldiv, 1) := by decide +kernel
theorem e2d5_31 : decode prog_4_method_6_code 31 = .ok (.lreturn, 1) := by decide +kernel
theorem e2pn5 : plainName "com/example/known_leaks/knownleaks/CellPacking" = true := by first | (simp [plainName, overriddenIn]; done) | decide +kernel
theorem e2ef5 (m : MethodId) (x0 : Addr) (x1 : Int64) : entryFrame m #[(.ref x0), (.long x1)] 5 = mkF m 0 #[.val (.ref x0), .val (.long x1), .second, .unset, .unset] [] := by first | (simp [entryFrame, mkF, argsToLocals, Value.category]; done) | rfl
set_option maxRecDepth 65536 in
set_option maxHeartbeats 40000000 in
theorem rm_be2 (l : Launch) (Z : State) (a0 : Array Value) (hw : ∀ d ∈ tables_1, d.before a0 Z = true) (ws : List Jvm.Cond) (ar : Addr) (bb : Int32) (h0 : Heap) (n0 : Nat) (Z0 : n0 ≤ h0.size) (H0 : Fld Z h0 ar "com/example/known_leaks/knownleaks/CellPacking" "cellsPerBlock" "I" (.int (2 : Int32))) (H1 : Fld Z h0 ar "com/example/known_leaks/knownleaks/CellPacking" "blockBits" "I" (.int bb)) :
    MetFree l (⟨"com/example/known_leaks/knownleaks/CellPacking", "bytes", "(J)J"⟩ : MethodName) (head1 (Jvm.Cond.code (⟨"com/example/known_leaks/knownleaks/CellPacking", "bytes", "(J)J"⟩ : MethodName) prog_4_method_6_code 5 (some .long) :: ws) ({ frames := 0, cells := 0, slots := 0, locals := 0 } : Room)) (fun a U => a = #[(.ref ar), (.long (16 : Int64))] ∧ Z.Warmed39 U.vm ∧ U.heap = h0) (fun _ _ _ _ _ => True) (fun _ U o U' => ∃ v L, o = .returned v ∧ Q_be2 Z ar bb h0 n0 v U'.heap L ∧ FrameEnd U o U' L ({ frames := 0, cells := 0, slots := 0, locals := 0 } : Room).cells ({ frames := 0, cells := 0, slots := 0, locals := 0 } : Room).slots) := by
  refine MetFree.of_bodySF (plainFor_of_name e2pn5) hisR ?_
  intro p e s m args below meth c s₁ Bd hml0 hP hK
  obtain ⟨rfl, hZ, hh⟩ := hP
  have hx := Bd.exec
  have hby := Bd.bytes
  have hret := Bd.returns
  have hlk := Bd.notSynchronized
  have hml : c.maxLocals = 5 := hml0
  have hown : s.vm.findClass "com/example/known_leaks/knownleaks/CellPacking" = some m.cls := findClass_of_methodNamed Bd.named
  have hnm := (name_of_methodNamed Bd.named Bd.method).1
  have X0 : Stand p l e ({ frames := 0, cells := 0, slots := 0, locals := 0 } : Room) s m #[(.ref ar), (.long (16 : Int64))] below meth c s₁ [] 0 0 := Stand.of_body Bd
  have e0 : s₁.heap = h0 := by rw [← hh, Bd.state]; rfl
  have N0 := Fr.nil n0
  show Wp p e below (fun o s₂ => ∃ v L, o = .returned v ∧ Q_be2 Z ar bb h0 n0 v s₂.heap L ∧ FrameEnd s o s₂ L ({ frames := 0, cells := 0, slots := 0, locals := 0 } : Room).cells ({ frames := 0, cells := 0, slots := 0, locals := 0 } : Room).slots) _
  refine Wp.back (U' := (s₁.setTop (mkF m 0 #[.val (.ref ar), .val (.long (16 : Int64)), .second, .unset, .unset] []))) (fun t k => castTop (e2ef5 m ar (16 : Int64)) k) ?_
  refine Wp.back (U' := (s₁.setTop (mkF m 2 #[.val (.ref ar), .val (.long (16 : Int64)), .second, .unset, .unset] [(.ref ar), (.long (16 : Int64))]))) (fun t k => XS.lloadN X0.here hx rfl (hb hby e2d5_0) rfl (XS.aloadN X0.here hx rfl (hb hby e2d5_1) rfl rfl k)) ?_
  obtain ⟨T1, X1, e1, st1⟩ := getF X0 hx hZ hown (host := "") (Or.inl (hw _ (List.mem_of_getElem? (i := 17) rfl))) Via.refl e0 H0 (g := (mkF m 2 #[.val (.ref ar), .val (.long (16 : Int64)), .second, .unset, .unset] [(.ref ar), (.long (16 : Int64))])) rfl rfl (hb hby e2d5_2)
  refine Wp.back (U' := (T1.setTop (mkF m 5 #[.val (.ref ar), .val (.long (16 : Int64)), .second, .unset, .unset] [(.int (2 : Int32)), (.long (16 : Int64))]))) st1 ?_
  refine Wp.back (U' := (T1.setTop (mkF m 10 #[.val (.ref ar), .val (.long (16 : Int64)), .second, .unset, .unset] [(.ref ar), (.long (17 : Int64))]))) (fun t k => XS.i2l X1.here hx rfl (hb hby e2d5_5) rfl (XS.ladd X1.here hx rfl (hb hby e2d5_6) rfl (XT.lconstV X1.here hx rfl (1 : Int64) (hb hby e2d5_7) (by decide) (XS.lsub X1.here hx rfl (hb hby e2d5_8) rfl (XS.aloadN X1.here hx rfl (hb hby e2d5_9) rfl rfl k))))) ?_
  obtain ⟨T2, X2, e2, st2⟩ := getF X1 hx hZ hown (host := "") (Or.inl (hw _ (List.mem_of_getElem? (i := 17) rfl))) Via.refl e1 H0 (g := (mkF m 10 #[.val (.ref ar), .val (.long (16 : Int64)), .second, .unset, .unset] [(.ref ar), (.long (17 : Int64))])) rfl rfl (hb hby e2d5_10)
  refine Wp.back (U' := (T2.setTop (mkF m 13 #[.val (.ref ar), .val (.long (16 : Int64)), .second, .unset, .unset] [(.int (2 : Int32)), (.long (17 : Int64))]))) st2 ?_
  refine Wp.back (U' := (T2.setTop (mkF m 18 #[.val (.ref ar), .val (.long (16 : Int64)), .second, .val (.long (8 : Int64)), .second] [(.ref ar), (.long (8 : Int64))]))) (fun t k => XS.i2l X2.here hx rfl (hb hby e2d5_13) rfl (XS.ldiv X2.here hx rfl (hb hby e2d5_14) rfl (by decide) (XS.lstoreN X2.here hx rfl (hb hby e2d5_15) rfl (l' := #[.val (.ref ar), .val (.long (16 : Int64)), .second, .val (.long (8 : Int64)), .second]) rfl (XS.lloadN X2.here hx rfl (hb hby e2d5_16) rfl (XS.aloadN X2.here hx rfl (hb hby e2d5_17) rfl rfl k))))) ?_
  obtain ⟨T3, X3, e3, st3⟩ := getF X2 hx hZ hown (host := "") (Or.inl (hw _ (List.mem_of_getElem? (i := 28) rfl))) Via.refl e2 H1 (g := (mkF m 18 #[.val (.ref ar), .val (.long (16 : Int64)), .second, .val (.long (8 : Int64)), .second] [(.ref ar), (.long (8 : Int64))])) rfl rfl (hb hby e2d5_18)
  refine Wp.back (U' := (T3.setTop (mkF m 21 #[.val (.ref ar), .val (.long (16 : Int64)), .second, .val (.long (8 : Int64)), .second] [(.int bb), (.long (8 : Int64))]))) st3 ?_
  refine Wp.back (U' := (T3.setTop (mkF m 31 #[.val (.ref ar), .val (.long (16 : Int64)), .second, .val (.long (8 : Int64)), .second] [(.long ((((8 : Int64) * (bb).toInt64) + (7 : Int64)) / (8 : Int64)))]))) (fun t k => XS.i2l X3.here hx rfl (hb hby e2d5_21) rfl (XS.lmul X3.here hx rfl (hb hby e2d5_22) rfl (Jvm.Stand.ldc2J X3 hx hown (mvT hZ (hw _ (List.mem_of_getElem? (i := 36) rfl))) rfl (hb hby e2d5_23) (XS.ladd X3.here hx rfl (hb hby e2d5_26) rfl (Jvm.Stand.ldc2J X3 hx hown (mvT hZ (hw _ (List.mem_of_getElem? (i := 37) rfl))) rfl (hb hby e2d5_27) (XS.ldiv X3.here hx rfl (hb hby e2d5_30) rfl (by decide) k)))))) ?_
  obtain ⟨fs, hr, hrun, hended, hW, hsame⟩ := X3.leave (v := (some (.long ((((8 : Int64) * (bb).toInt64) + (7 : Int64)) / (8 : Int64))))) (fun h => by rw [hret] at h; cases h)
  refine Wp.done (retOut X3 hx hret rfl (Or.inr (Or.inl ⟨rfl, rfl, _, rfl⟩)) (hb hby e2d5_31) hr) hrun hended ⟨_, _, rfl, ?_, ⟨_, rfl⟩, hW, hsame.mono (by decide) (by decide)⟩
  show Q_be2 Z ar bb h0 n0 _ T3.heap _
  rw [e3]
  exact ⟨rfl, N0, (Keep.refl h0 [])⟩
def Q_by3 (Z : State) (ar : Addr) (q1 : Int64) (bb : Int32) (h0 : Heap) (n0 : Nat) (v : Option Value) (h : Heap) (L : List Loc) : Prop := v = some (.long ((((((q1 + (3 : Int64)) - (1 : Int64)) / (3 : Int64)) * (bb).toInt64) + (7 : Int64)) / (8 : Int64))) ∧ Fr n0 L ∧ Keep h0 h []
theorem g3d5_0 : decode prog_4_method_6_code 0 = .ok (.lload_n 1, 1) := by decide +kernel
theorem g3d5_1 : decode prog_4_method_6_code 1 = .ok (.aload_n 0, 1) := by decide +kernel
theorem g3d5_2 : decode prog_4_method_6_code 2 = .ok (.getfield 32, 3) := by decide +kernel
theorem g3d5_5 : decode prog_4_method_6_code 5 = .ok (.i2l, 1) := by decide +kernel
theorem g3d5_6 : decode prog_4_method_6_code 6 = .ok (.ladd, 1) := by decide +kernel
theorem g3d5_7 : decode prog_4_method_6_code 7 = .ok (.lconst 1, 1) := by decide +kernel
theorem g3d5_8 : decode prog_4_method_6_code 8 = .ok (.lsub, 1) := by decide +kernel
theorem g3d5_9 : decode prog_4_method_6_code 9 = .ok (.aload_n 0, 1) := by decide +kernel
theorem g3d5_10 : decode prog_4_method_6_code 10 = .ok (.getfield 32, 3) := by decide +kernel
theorem g3d5_13 : decode prog_4_method_6_code 13 = .ok (.i2l, 1) := by decide +kernel
theorem g3d5_14 : decode prog_4_method_6_code 14 = .ok (.ldiv, 1) := by decide +kernel
theorem g3d5_15 : decode prog_4_method_6_code 15 = .ok (.lstore_n 3, 1) := by decide +kernel
theorem g3d5_16 : decode prog_4_method_6_code 16 = .ok (.lload_n 3, 1) := by decide +kernel
theorem g3d5_17 : decode prog_4_method_6_code 17 = .ok (.aload_n 0, 1) := by decide +kernel
theorem g3d5_18 : decode prog_4_method_6_code 18 = .ok (.getfield 41, 3) := by decide +kernel
theorem g3d5_21 : decode prog_4_method_6_code 21 = .ok (.i2l, 1) := by decide +kernel
theorem g3d5_22 : decode prog_4_method_6_code 22 = .ok (.lmul, 1) := by decide +kernel
theorem g3d5_23 : decode prog_4_method_6_code 23 = .ok (.ldc2_w 48, 3) := by decide +kernel
theorem g3d5_26 : decode prog_4_method_6_code 26 = .ok (.ladd, 1) := by decide +kernel
theorem g3d5_27 : decode prog_4_method_6_code 27 = .ok (.ldc2_w 50, 3) := by decide +kernel
theorem g3d5_30 : decode prog_4_method_6_code 30 = .ok (.ldiv, 1) := by decide +kernel
theorem g3d5_31 : decode prog_4_method_6_code 31 = .ok (.lreturn, 1) := by decide +kernel
theorem g3pn5 : plainName "com/example/known_leaks/knownleaks/CellPacking" = true := by first | (simp [plainName, overriddenIn]; done) | decide +kernel
theorem g3ef5 (m : MethodId) (x0 : Addr) (x1 : Int64) : entryFrame m #[(.ref x0), (.long x1)] 5 = mkF m 0 #[.val (.ref x0), .val (.long x1), .second, .unset, .unset] [] := by first | (simp [entryFrame, mkF, argsToLocals, Value.category]; done) | rfl
set_option maxRecDepth 65536 in
set_option maxHeartbeats 40000000 in
theorem rm_by3 (l : Launch) (Z : State) (a0 : Array Value) (hw : ∀ d ∈ tables_1, d.before a0 Z = true) (ws : List Jvm.Cond) (ar : Addr) (q1 : Int64) (bb : Int32) (h0 : Heap) (n0 : Nat) (Z0 : n0 ≤ h0.size) (H0 : Fld Z h0 ar "com/example/known_leaks/knownleaks/CellPacking" "cellsPerBlock" "I" (.int (3 : Int32))) (H1 : Fld Z h0 ar "com/example/known_leaks/knownleaks/CellPacking" "blockBits" "I" (.int bb)) :
    MetFree l (⟨"com/example/known_leaks/knownleaks/CellPacking", "bytes", "(J)J"⟩ : MethodName) (head1 (Jvm.Cond.code (⟨"com/example/known_leaks/knownleaks/CellPacking", "bytes", "(J)J"⟩ : MethodName) prog_4_method_6_code 5 (some .long) :: ws) ({ frames := 0, cells := 0, slots := 0, locals := 0 } : Room)) (fun a U => a = #[(.ref ar), (.long q1)] ∧ Z.Warmed39 U.vm ∧ U.heap = h0) (fun _ _ _ _ _ => True) (fun _ U o U' => ∃ v L, o = .returned v ∧ Q_by3 Z ar q1 bb h0 n0 v U'.heap L ∧ FrameEnd U o U' L ({ frames := 0, cells := 0, slots := 0, locals := 0 } : Room).cells ({ frames := 0, cells := 0, slots := 0, locals := 0 } : Room).slots) := by
  refine MetFree.of_bodySF (plainFor_of_name g3pn5) hisR ?_
  intro p e s m args below meth c s₁ Bd hml0 hP hK
  obtain ⟨rfl, hZ, hh⟩ := hP
  have hx := Bd.exec
  have hby := Bd.bytes
  have hret := Bd.returns
  have hlk := Bd.notSynchronized
  have hml : c.maxLocals = 5 := hml0
  have hown : s.vm.findClass "com/example/known_leaks/knownleaks/CellPacking" = some m.cls := findClass_of_methodNamed Bd.named
  have hnm := (name_of_methodNamed Bd.named Bd.method).1
  have X0 : Stand p l e ({ frames := 0, cells := 0, slots := 0, locals := 0 } : Room) s m #[(.ref ar), (.long q1)] below meth c s₁ [] 0 0 := Stand.of_body Bd
  have e0 : s₁.heap = h0 := by rw [← hh, Bd.state]; rfl
  have N0 := Fr.nil n0
  show Wp p e below (fun o s₂ => ∃ v L, o = .returned v ∧ Q_by3 Z ar q1 bb h0 n0 v s₂.heap L ∧ FrameEnd s o s₂ L ({ frames := 0, cells := 0, slots := 0, locals := 0 } : Room).cells ({ frames := 0, cells := 0, slots := 0, locals := 0 } : Room).slots) _
  refine Wp.back (U' := (s₁.setTop (mkF m 0 #[.val (.ref ar), .val (.long q1), .second, .unset, .unset] []))) (fun t k => castTop (g3ef5 m ar q1) k) ?_
  refine Wp.back (U' := (s₁.setTop (mkF m 2 #[.val (.ref ar), .val (.long q1), .second, .unset, .unset] [(.ref ar), (.long q1)]))) (fun t k => XS.lloadN X0.here hx rfl (hb hby g3d5_0) rfl (XS.aloadN X0.here hx rfl (hb hby g3d5_1) rfl rfl k)) ?_
  obtain ⟨T1, X1, e1, st1⟩ := getF X0 hx hZ hown (host := "") (Or.inl (hw _ (List.mem_of_getElem? (i := 17) rfl))) Via.refl e0 H0 (g := (mkF m 2 #[.val (.ref ar), .val (.long q1), .second, .unset, .unset] [(.ref ar), (.long q1)])) rfl rfl (hb hby g3d5_2)
  refine Wp.back (U' := (T1.setTop (mkF m 5 #[.val (.ref ar), .val (.long q1), .second, .unset, .unset] [(.int (3 : Int32)), (.long q1)]))) st1 ?_
  refine Wp.back (U' := (T1.setTop (mkF m 10 #[.val (.ref ar), .val (.long q1), .second, .unset, .unset] [(.ref ar), (.long ((q1 + (3 : Int64)) - (1 : Int64)))]))) (fun t k => XS.i2l X1.here hx rfl (hb hby g3d5_5) rfl (XS.ladd X1.here hx rfl (hb hby g3d5_6) rfl (XT.lconstV X1.here hx rfl (1 : Int64) (hb hby g3d5_7) (by decide) (XS.lsub X1.here hx rfl (hb hby g3d5_8) rfl (XS.aloadN X1.here hx rfl (hb hby g3d5_9) rfl rfl k))))) ?_
  obtain ⟨T2, X2, e2, st2⟩ := getF X1 hx hZ hown (host := "") (Or.inl (hw _ (List.mem_of_getElem? (i := 17) rfl))) Via.refl e1 H0 (g := (mkF m 10 #[.val (.ref ar), .val (.long q1), .second, .unset, .unset] [(.ref ar), (.long ((q1 + (3 : Int64)) - (1 : Int64)))])) rfl rfl (hb hby g3d5_10)
  refine Wp.back (U' := (T2.setTop (mkF m 13 #[.val (.ref ar), .val (.long q1), .second, .unset, .unset] [(.int (3 : Int32)), (.long ((q1 + (3 : Int64)) - (1 : Int64)))]))) st2 ?_
  refine Wp.back (U' := (T2.setTop (mkF m 18 #[.val (.ref ar), .val (.long q1), .second, .val (.long (((q1 + (3 : Int64)) - (1 : Int64)) / (3 : Int64))), .second] [(.ref ar), (.long (((q1 + (3 : Int64)) - (1 : Int64)) / (3 : Int64)))]))) (fun t k => XS.i2l X2.here hx rfl (hb hby g3d5_13) rfl (XS.ldiv X2.here hx rfl (hb hby g3d5_14) rfl (by decide) (XS.lstoreN X2.here hx rfl (hb hby g3d5_15) rfl (l' := #[.val (.ref ar), .val (.long q1), .second, .val (.long (((q1 + (3 : Int64)) - (1 : Int64)) / (3 : Int64))), .second]) rfl (XS.lloadN X2.here hx rfl (hb hby g3d5_16) rfl (XS.aloadN X2.here hx rfl (hb hby g3d5_17) rfl rfl k))))) ?_
  obtain ⟨T3, X3, e3, st3⟩ := getF X2 hx hZ hown (host := "") (Or.inl (hw _ (List.mem_of_getElem? (i := 28) rfl))) Via.refl e2 H1 (g := (mkF m 18 #[.val (.ref ar), .val (.long q1), .second, .val (.long (((q1 + (3 : Int64)) - (1 : Int64)) / (3 : Int64))), .second] [(.ref ar), (.long (((q1 + (3 : Int64)) - (1 : Int64)) / (3 : Int64)))])) rfl rfl (hb hby g3d5_18)
  refine Wp.back (U' := (T3.setTop (mkF m 21 #[.val (.ref ar), .val (.long q1), .second, .val (.long (((q1 + (3 : Int64)) - (1 : Int64)) / (3 : Int64))), .second] [(.int bb), (.long (((q1 + (3 : Int64)) - (1 : Int64)) / (3 : Int64)))]))) st3 ?_
  refine Wp.back (U' := (T3.setTop (mkF m 31 #[.val (.ref ar), .val (.long q1), .second, .val (.long (((q1 + (3 : Int64)) - (1 : Int64)) / (3 : Int64))), .second] [(.long ((((((q1 + (3 : Int64)) - (1 : Int64)) / (3 : Int64)) * (bb).toInt64) + (7 : Int64)) / (8 : Int64)))]))) (fun t k => XS.i2l X3.here hx rfl (hb hby g3d5_21) rfl (XS.lmul X3.here hx rfl (hb hby g3d5_22) rfl (Jvm.Stand.ldc2J X3 hx hown (mvT hZ (hw _ (List.mem_of_getElem? (i := 36) rfl))) rfl (hb hby g3d5_23) (XS.ladd X3.here hx rfl (hb hby g3d5_26) rfl (Jvm.Stand.ldc2J X3 hx hown (mvT hZ (hw _ (List.mem_of_getElem? (i := 37) rfl))) rfl (hb hby g3d5_27) (XS.ldiv X3.here hx rfl (hb hby g3d5_30) rfl (by decide) k)))))) ?_
  obtain ⟨fs, hr, hrun, hended, hW, hsame⟩ := X3.leave (v := (some (.long ((((((q1 + (3 : Int64)) - (1 : Int64)) / (3 : Int64)) * (bb).toInt64) + (7 : Int64)) / (8 : Int64))))) (fun h => by rw [hret] at h; cases h)
  refine Wp.done (retOut X3 hx hret rfl (Or.inr (Or.inl ⟨rfl, rfl, _, rfl⟩)) (hb hby g3d5_31) hr) hrun hended ⟨_, _, rfl, ?_, ⟨_, rfl⟩, hW, hsame.mono (by decide) (by decide)⟩
  show Q_by3 Z ar q1 bb h0 n0 _ T3.heap _
  rw [e3]
  exact ⟨rfl, N0, (Keep.refl h0 [])⟩
def Q_be3 (Z : State) (ar : Addr) (bb : Int32) (h0 : Heap) (n0 : Nat) (v : Option Value) (h : Heap) (L : List Loc) : Prop := v = some (.long ((((8 : Int64) * (bb).toInt64) + (7 : Int64)) / (8 : Int64))) ∧ Fr n0 L ∧ Keep h0 h []
theorem e3d5_0 : decode prog_4_method_6_code 0 = .ok (.lload_n 1, 1) := by decide +kernel
theorem e3d5_1 : decode prog_4_method_6_code 1 = .ok (.aload_n 0, 1) := by decide +kernel
theorem e3d5_2 : decode prog_4_method_6_code 2 = .ok (.getfield 32, 3) := by decide +kernel
theorem e3d5_5 : decode prog_4_method_6_code 5 = .ok (.i2l, 1) := by decide +kernel
theorem e3d5_6 : decode prog_4_method_6_code 6 = .ok (.ladd, 1) := by decide +kernel
theorem e3d5_7 : decode prog_4_method_6_code 7 = .ok (.lconst 1, 1) := by decide +kernel
theorem e3d5_8 : decode prog_4_method_6_code 8 = .ok (.lsub, 1) := by decide +kernel
theorem e3d5_9 : decode prog_4_method_6_code 9 = .ok (.aload_n 0, 1) := by decide +kernel
theorem e3d5_10 : decode prog_4_method_6_code 10 = .ok (.getfield 32, 3) := by decide +kernel
theorem e3d5_13 : decode prog_4_method_6_code 13 = .ok (.i2l, 1) := by decide +kernel
theorem e3d5_14 : decode prog_4_method_6_code 14 = .ok (.ldiv, 1) := by decide +kernel
theorem e3d5_15 : decode prog_4_method_6_code 15 = .ok (.lstore_n 3, 1) := by decide +kernel
theorem e3d5_16 : decode prog_4_method_6_code 16 = .ok (.lload_n 3, 1) := by decide +kernel
theorem e3d5_17 : decode prog_4_method_6_code 17 = .ok (.aload_n 0, 1) := by decide +kernel
theorem e3d5_18 : decode prog_4_method_6_code 18 = .ok (.getfield 41, 3) := by decide +kernel
theorem e3d5_21 : decode prog_4_method_6_code 21 = .ok (.i2l, 1) := by decide +kernel
theorem e3d5_22 : decode prog_4_method_6_code 22 = .ok (.lmul, 1) := by decide +kernel
theorem e3d5_23 : decode prog_4_method_6_code 23 = .ok (.ldc2_w 48, 3) := by decide +kernel
theorem e3d5_26 : decode prog_4_method_6_code 26 = .ok (.ladd, 1) := by decide +kernel
theorem e3d5_27 : decode prog_4_method_6_code 27 = .ok (.ldc2_w 50, 3) := by decide +kernel
theorem e3d5_30 : decode prog_4_method_6_code 30 = .ok (.ldiv, 1) := by decide +kernel
theorem e3d5_31 : decode prog_4_method_6_code 31 = .ok (.lreturn, 1) := by decide +kernel
theorem e3pn5 : plainName "com/example/known_leaks/knownleaks/CellPacking" = true := by first | (simp [plainName, overriddenIn]; done) | decide +kernel
theorem e3ef5 (m : MethodId) (x0 : Addr) (x1 : Int64) : entryFrame m #[(.ref x0), (.long x1)] 5 = mkF m 0 #[.val (.ref x0), .val (.long x1), .second, .unset, .unset] [] := by first | (simp [entryFrame, mkF, argsToLocals, Value.category]; done) | rfl
set_option maxRecDepth 65536 in
set_option maxHeartbeats 40000000 in
theorem rm_be3 (l : Launch) (Z : State) (a0 : Array Value) (hw : ∀ d ∈ tables_1, d.before a0 Z = true) (ws : List Jvm.Cond) (ar : Addr) (bb : Int32) (h0 : Heap) (n0 : Nat) (Z0 : n0 ≤ h0.size) (H0 : Fld Z h0 ar "com/example/known_leaks/knownleaks/CellPacking" "cellsPerBlock" "I" (.int (3 : Int32))) (H1 : Fld Z h0 ar "com/example/known_leaks/knownleaks/CellPacking" "blockBits" "I" (.int bb)) :
    MetFree l (⟨"com/example/known_leaks/knownleaks/CellPacking", "bytes", "(J)J"⟩ : MethodName) (head1 (Jvm.Cond.code (⟨"com/example/known_leaks/knownleaks/CellPacking", "bytes", "(J)J"⟩ : MethodName) prog_4_method_6_code 5 (some .long) :: ws) ({ frames := 0, cells := 0, slots := 0, locals := 0 } : Room)) (fun a U => a = #[(.ref ar), (.long (24 : Int64))] ∧ Z.Warmed39 U.vm ∧ U.heap = h0) (fun _ _ _ _ _ => True) (fun _ U o U' => ∃ v L, o = .returned v ∧ Q_be3 Z ar bb h0 n0 v U'.heap L ∧ FrameEnd U o U' L ({ frames := 0, cells := 0, slots := 0, locals := 0 } : Room).cells ({ frames := 0, cells := 0, slots := 0, locals := 0 } : Room).slots) := by
  refine MetFree.of_bodySF (plainFor_of_name e3pn5) hisR ?_
  intro p e s m args below meth c s₁ Bd hml0 hP hK
  obtain ⟨rfl, hZ, hh⟩ := hP
  have hx := Bd.exec
  have hby := Bd.bytes
  have hret := Bd.returns
  have hlk := Bd.notSynchronized
  have hml : c.maxLocals = 5 := hml0
  have hown : s.vm.findClass "com/example/known_leaks/knownleaks/CellPacking" = some m.cls := findClass_of_methodNamed Bd.named
  have hnm := (name_of_methodNamed Bd.named Bd.method).1
  have X0 : Stand p l e ({ frames := 0, cells := 0, slots := 0, locals := 0 } : Room) s m #[(.ref ar), (.long (24 : Int64))] below meth c s₁ [] 0 0 := Stand.of_body Bd
  have e0 : s₁.heap = h0 := by rw [← hh, Bd.state]; rfl
  have N0 := Fr.nil n0
  show Wp p e below (fun o s₂ => ∃ v L, o = .returned v ∧ Q_be3 Z ar bb h0 n0 v s₂.heap L ∧ FrameEnd s o s₂ L ({ frames := 0, cells := 0, slots := 0, locals := 0 } : Room).cells ({ frames := 0, cells := 0, slots := 0, locals := 0 } : Room).slots) _
  refine Wp.back (U' := (s₁.setTop (mkF m 0 #[.val (.ref ar), .val (.long (24 : Int64)), .second, .unset, .unset] []))) (fun t k => castTop (e3ef5 m ar (24 : Int64)) k) ?_
  refine Wp.back (U' := (s₁.setTop (mkF m 2 #[.val (.ref ar), .val (.long (24 : Int64)), .second, .unset, .unset] [(.ref ar), (.long (24 : Int64))]))) (fun t k => XS.lloadN X0.here hx rfl (hb hby e3d5_0) rfl (XS.aloadN X0.here hx rfl (hb hby e3d5_1) rfl rfl k)) ?_
  obtain ⟨T1, X1, e1, st1⟩ := getF X0 hx hZ hown (host := "") (Or.inl (hw _ (List.mem_of_getElem? (i := 17) rfl))) Via.refl e0 H0 (g := (mkF m 2 #[.val (.ref ar), .val (.long (24 : Int64)), .second, .unset, .unset] [(.ref ar), (.long (24 : Int64))])) rfl rfl (hb hby e3d5_2)
  refine Wp.back (U' := (T1.setTop (mkF m 5 #[.val (.ref ar), .val (.long (24 : Int64)), .second, .unset, .unset] [(.int (3 : Int32)), (.long (24 : Int64))]))) st1 ?_
  refine Wp.back (U' := (T1.setTop (mkF m 10 #[.val (.ref ar), .val (.long (24 : Int64)), .second, .unset, .unset] [(.ref ar), (.long (26 : Int64))]))) (fun t k => XS.i2l X1.here hx rfl (hb hby e3d5_5) rfl (XS.ladd X1.here hx rfl (hb hby e3d5_6) rfl (XT.lconstV X1.here hx rfl (1 : Int64) (hb hby e3d5_7) (by decide) (XS.lsub X1.here hx rfl (hb hby e3d5_8) rfl (XS.aloadN X1.here hx rfl (hb hby e3d5_9) rfl rfl k))))) ?_
  obtain ⟨T2, X2, e2, st2⟩ := getF X1 hx hZ hown (host := "") (Or.inl (hw _ (List.mem_of_getElem? (i := 17) rfl))) Via.refl e1 H0 (g := (mkF m 10 #[.val (.ref ar), .val (.long (24 : Int64)), .second, .unset, .unset] [(.ref ar), (.long (26 : Int64))])) rfl rfl (hb hby e3d5_10)
  refine Wp.back (U' := (T2.setTop (mkF m 13 #[.val (.ref ar), .val (.long (24 : Int64)), .second, .unset, .unset] [(.int (3 : Int32)), (.long (26 : Int64))]))) st2 ?_
  refine Wp.back (U' := (T2.setTop (mkF m 18 #[.val (.ref ar), .val (.long (24 : Int64)), .second, .val (.long (8 : Int64)), .second] [(.ref ar), (.long (8 : Int64))]))) (fun t k => XS.i2l X2.here hx rfl (hb hby e3d5_13) rfl (XS.ldiv X2.here hx rfl (hb hby e3d5_14) rfl (by decide) (XS.lstoreN X2.here hx rfl (hb hby e3d5_15) rfl (l' := #[.val (.ref ar), .val (.long (24 : Int64)), .second, .val (.long (8 : Int64)), .second]) rfl (XS.lloadN X2.here hx rfl (hb hby e3d5_16) rfl (XS.aloadN X2.here hx rfl (hb hby e3d5_17) rfl rfl k))))) ?_
  obtain ⟨T3, X3, e3, st3⟩ := getF X2 hx hZ hown (host := "") (Or.inl (hw _ (List.mem_of_getElem? (i := 28) rfl))) Via.refl e2 H1 (g := (mkF m 18 #[.val (.ref ar), .val (.long (24 : Int64)), .second, .val (.long (8 : Int64)), .second] [(.ref ar), (.long (8 : Int64))])) rfl rfl (hb hby e3d5_18)
  refine Wp.back (U' := (T3.setTop (mkF m 21 #[.val (.ref ar), .val (.long (24 : Int64)), .second, .val (.long (8 : Int64)), .second] [(.int bb), (.long (8 : Int64))]))) st3 ?_
  refine Wp.back (U' := (T3.setTop (mkF m 31 #[.val (.ref ar), .val (.long (24 : Int64)), .second, .val (.long (8 : Int64)), .second] [(.long ((((8 : Int64) * (bb).toInt64) + (7 : Int64)) / (8 : Int64)))]))) (fun t k => XS.i2l X3.here hx rfl (hb hby e3d5_21) rfl (XS.lmul X3.here hx rfl (hb hby e3d5_22) rfl (Jvm.Stand.ldc2J X3 hx hown (mvT hZ (hw _ (List.mem_of_getElem? (i := 36) rfl))) rfl (hb hby e3d5_23) (XS.ladd X3.here hx rfl (hb hby e3d5_26) rfl (Jvm.Stand.ldc2J X3 hx hown (mvT hZ (hw _ (List.mem_of_getElem? (i := 37) rfl))) rfl (hb hby e3d5_27) (XS.ldiv X3.here hx rfl (hb hby e3d5_30) rfl (by decide) k)))))) ?_
  obtain ⟨fs, hr, hrun, hended, hW, hsame⟩ := X3.leave (v := (some (.long ((((8 : Int64) * (bb).toInt64) + (7 : Int64)) / (8 : Int64))))) (fun h => by rw [hret] at h; cases h)
  refine Wp.done (retOut X3 hx hret rfl (Or.inr (Or.inl ⟨rfl, rfl, _, rfl⟩)) (hb hby e3d5_31) hr) hrun hended ⟨_, _, rfl, ?_, ⟨_, rfl⟩, hW, hsame.mono (by decide) (by decide)⟩
  show Q_be3 Z ar bb h0 n0 _ T3.heap _
  rw [e3]
  exact ⟨rfl, N0, (Keep.refl h0 [])⟩
def Q_by4 (Z : State) (ar : Addr) (q1 : Int64) (bb : Int32) (h0 : Heap) (n0 : Nat) (v : Option Value) (h : Heap) (L : List Loc) : Prop := v = some (.long ((((((q1 + (4 : Int64)) - (1 : Int64)) / (4 : Int64)) * (bb).toInt64) + (7 : Int64)) / (8 : Int64))) ∧ Fr n0 L ∧ Keep h0 h []
theorem g4d5_0 : decode prog_4_method_6_code 0 = .ok (.lload_n 1, 1) := by decide +kernel
theorem g4d5_1 : decode prog_4_method_6_code 1 = .ok (.aload_n 0, 1) := by decide +kernel
theorem g4d5_2 : decode prog_4_method_6_code 2 = .ok (.getfield 32, 3) := by decide +kernel
theorem g4d5_5 : decode prog_4_method_6_code 5 = .ok (.i2l, 1) := by decide +kernel
theorem g4d5_6 : decode prog_4_method_6_code 6 = .ok (.ladd, 1) := by decide +kernel
theorem g4d5_7 : decode prog_4_method_6_code 7 = .ok (.lconst 1, 1) := by decide +kernel
theorem g4d5_8 : decode prog_4_method_6_code 8 = .ok (.lsub, 1) := by decide +kernel
theorem g4d5_9 : decode prog_4_method_6_code 9 = .ok (.aload_n 0, 1) := by decide +kernel
theorem g4d5_10 : decode prog_4_method_6_code 10 = .ok (.getfield 32, 3) := by decide +kernel
theorem g4d5_13 : decode prog_4_method_6_code 13 = .ok (.i2l, 1) := by decide +kernel
theorem g4d5_14 : decode prog_4_method_6_code 14 = .ok (.ldiv, 1) := by decide +kernel
theorem g4d5_15 : decode prog_4_method_6_code 15 = .ok (.lstore_n 3, 1) := by decide +kernel
theorem g4d5_16 : decode prog_4_method_6_code 16 = .ok (.lload_n 3, 1) := by decide +kernel
theorem g4d5_17 : decode prog_4_method_6_code 17 = .ok (.aload_n 0, 1) := by decide +kernel
theorem g4d5_18 : decode prog_4_method_6_code 18 = .ok (.getfield 41, 3) := by decide +kernel
theorem g4d5_21 : decode prog_4_method_6_code 21 = .ok (.i2l, 1) := by decide +kernel
theorem g4d5_22 : decode prog_4_method_6_code 22 = .ok (.lmul, 1) := by decide +kernel
theorem g4d5_23 : decode prog_4_method_6_code 23 = .ok (.ldc2_w 48, 3) := by decide +kernel
theorem g4d5_26 : decode prog_4_method_6_code 26 = .ok (.ladd, 1) := by decide +kernel
theorem g4d5_27 : decode prog_4_method_6_code 27 = .ok (.ldc2_w 50, 3) := by decide +kernel
theorem g4d5_30 : decode prog_4_method_6_code 30 = .ok (.ldiv, 1) := by decide +kernel
theorem g4d5_31 : decode prog_4_method_6_code 31 = .ok (.lreturn, 1) := by decide +kernel
theorem g4pn5 : plainName "com/example/known_leaks/knownleaks/CellPacking" = true := by first | (simp [plainName, overriddenIn]; done) | decide +kernel
theorem g4ef5 (m : MethodId) (x0 : Addr) (x1 : Int64) : entryFrame m #[(.ref x0), (.long x1)] 5 = mkF m 0 #[.val (.ref x0), .val (.long x1), .second, .unset, .unset] [] := by first | (simp [entryFrame, mkF, argsToLocals, Value.category]; done) | rfl
set_option maxRecDepth 65536 in
set_option maxHeartbeats 40000000 in
theorem rm_by4 (l : Launch) (Z : State) (a0 : Array Value) (hw : ∀ d ∈ tables_1, d.before a0 Z = true) (ws : List Jvm.Cond) (ar : Addr) (q1 : Int64) (bb : Int32) (h0 : Heap) (n0 : Nat) (Z0 : n0 ≤ h0.size) (H0 : Fld Z h0 ar "com/example/known_leaks/knownleaks/CellPacking" "cellsPerBlock" "I" (.int (4 : Int32))) (H1 : Fld Z h0 ar "com/example/known_leaks/knownleaks/CellPacking" "blockBits" "I" (.int bb)) :
    MetFree l (⟨"com/example/known_leaks/knownleaks/CellPacking", "bytes", "(J)J"⟩ : MethodName) (head1 (Jvm.Cond.code (⟨"com/example/known_leaks/knownleaks/CellPacking", "bytes", "(J)J"⟩ : MethodName) prog_4_method_6_code 5 (some .long) :: ws) ({ frames := 0, cells := 0, slots := 0, locals := 0 } : Room)) (fun a U => a = #[(.ref ar), (.long q1)] ∧ Z.Warmed39 U.vm ∧ U.heap = h0) (fun _ _ _ _ _ => True) (fun _ U o U' => ∃ v L, o = .returned v ∧ Q_by4 Z ar q1 bb h0 n0 v U'.heap L ∧ FrameEnd U o U' L ({ frames := 0, cells := 0, slots := 0, locals := 0 } : Room).cells ({ frames := 0, cells := 0, slots := 0, locals := 0 } : Room).slots) := by
  refine MetFree.of_bodySF (plainFor_of_name g4pn5) hisR ?_
  intro p e s m args below meth c s₁ Bd hml0 hP hK
  obtain ⟨rfl, hZ, hh⟩ := hP
  have hx := Bd.exec
  have hby := Bd.bytes
  have hret := Bd.returns
  have hlk := Bd.notSynchronized
  have hml : c.maxLocals = 5 := hml0
  have hown : s.vm.findClass "com/example/known_leaks/knownleaks/CellPacking" = some m.cls := findClass_of_methodNamed Bd.named
  have hnm := (name_of_methodNamed Bd.named Bd.method).1
  have X0 : Stand p l e ({ frames := 0, cells := 0, slots := 0, locals := 0 } : Room) s m #[(.ref ar), (.long q1)] below meth c s₁ [] 0 0 := Stand.of_body Bd
  have e0 : s₁.heap = h0 := by rw [← hh, Bd.state]; rfl
  have N0 := Fr.nil n0
  show Wp p e below (fun o s₂ => ∃ v L, o = .returned v ∧ Q_by4 Z ar q1 bb h0 n0 v s₂.heap L ∧ FrameEnd s o s₂ L ({ frames := 0, cells := 0, slots := 0, locals := 0 } : Room).cells ({ frames := 0, cells := 0, slots := 0, locals := 0 } : Room).slots) _
  refine Wp.back (U' := (s₁.setTop (mkF m 0 #[.val (.ref ar), .val (.long q1), .second, .unset, .unset] []))) (fun t k => castTop (g4ef5 m ar q1) k) ?_
  refine Wp.back (U' := (s₁.setTop (mkF m 2 #[.val (.ref ar), .val (.long q1), .second, .unset, .unset] [(.ref ar), (.long q1)]))) (fun t k => XS.lloadN X0.here hx rfl (hb hby g4d5_0) rfl (XS.aloadN X0.here hx rfl (hb hby g4d5_1) rfl rfl k)) ?_
  obtain ⟨T1, X1, e1, st1⟩ := getF X0 hx hZ hown (host := "") (Or.inl (hw _ (List.mem_of_getElem? (i := 17) rfl))) Via.refl e0 H0 (g := (mkF m 2 #[.val (.ref ar), .val (.long q1), .second, .unset, .unset] [(.ref ar), (.long q1)])) rfl rfl (hb hby g4d5_2)
  refine Wp.back (U' := (T1.setTop (mkF m 5 #[.val (.ref ar), .val (.long q1), .second, .unset, .unset] [(.int (4 : Int32)), (.long q1)]))) st1 ?_
  refine Wp.back (U' := (T1.setTop (mkF m 10 #[.val (.ref ar), .val (.long q1), .second, .unset, .unset] [(.ref ar), (.long ((q1 + (4 : Int64)) - (1 : Int64)))]))) (fun t k => XS.i2l X1.here hx rfl (hb hby g4d5_5) rfl (XS.ladd X1.here hx rfl (hb hby g4d5_6) rfl (XT.lconstV X1.here hx rfl (1 : Int64) (hb hby g4d5_7) (by decide) (XS.lsub X1.here hx rfl (hb hby g4d5_8) rfl (XS.aloadN X1.here hx rfl (hb hby g4d5_9) rfl rfl k))))) ?_
  obtain ⟨T2, X2, e2, st2⟩ := getF X1 hx hZ hown (host := "") (Or.inl (hw _ (List.mem_of_getElem? (i := 17) rfl))) Via.refl e1 H0 (g := (mkF m 10 #[.val (.ref ar), .val (.long q1), .second, .unset, .unset] [(.ref ar), (.long ((q1 + (4 : Int64)) - (1 : Int64)))])) rfl rfl (hb hby g4d5_10)
  refine Wp.back (U' := (T2.setTop (mkF m 13 #[.val (.ref ar), .val (.long q1), .second, .unset, .unset] [(.int (4 : Int32)), (.long ((q1 + (4 : Int64)) - (1 : Int64)))]))) st2 ?_
  refine Wp.back (U' := (T2.setTop (mkF m 18 #[.val (.ref ar), .val (.long q1), .second, .val (.long (((q1 + (4 : Int64)) - (1 : Int64)) / (4 : Int64))), .second] [(.ref ar), (.long (((q1 + (4 : Int64)) - (1 : Int64)) / (4 : Int64)))]))) (fun t k => XS.i2l X2.here hx rfl (hb hby g4d5_13) rfl (XS.ldiv X2.here hx rfl (hb hby g4d5_14) rfl (by decide) (XS.lstoreN X2.here hx rfl (hb hby g4d5_15) rfl (l' := #[.val (.ref ar), .val (.long q1), .second, .val (.long (((q1 + (4 : Int64)) - (1 : Int64)) / (4 : Int64))), .second]) rfl (XS.lloadN X2.here hx rfl (hb hby g4d5_16) rfl (XS.aloadN X2.here hx rfl (hb hby g4d5_17) rfl rfl k))))) ?_
  obtain ⟨T3, X3, e3, st3⟩ := getF X2 hx hZ hown (host := "") (Or.inl (hw _ (List.mem_of_getElem? (i := 28) rfl))) Via.refl e2 H1 (g := (mkF m 18 #[.val (.ref ar), .val (.long q1), .second, .val (.long (((q1 + (4 : Int64)) - (1 : Int64)) / (4 : Int64))), .second] [(.ref ar), (.long (((q1 + (4 : Int64)) - (1 : Int64)) / (4 : Int64)))])) rfl rfl (hb hby g4d5_18)
  refine Wp.back (U' := (T3.setTop (mkF m 21 #[.val (.ref ar), .val (.long q1), .second, .val (.long (((q1 + (4 : Int64)) - (1 : Int64)) / (4 : Int64))), .second] [(.int bb), (.long (((q1 + (4 : Int64)) - (1 : Int64)) / (4 : Int64)))]))) st3 ?_
  refine Wp.back (U' := (T3.setTop (mkF m 31 #[.val (.ref ar), .val (.long q1), .second, .val (.long (((q1 + (4 : Int64)) - (1 : Int64)) / (4 : Int64))), .second] [(.long ((((((q1 + (4 : Int64)) - (1 : Int64)) / (4 : Int64)) * (bb).toInt64) + (7 : Int64)) / (8 : Int64)))]))) (fun t k => XS.i2l X3.here hx rfl (hb hby g4d5_21) rfl (XS.lmul X3.here hx rfl (hb hby g4d5_22) rfl (Jvm.Stand.ldc2J X3 hx hown (mvT hZ (hw _ (List.mem_of_getElem? (i := 36) rfl))) rfl (hb hby g4d5_23) (XS.ladd X3.here hx rfl (hb hby g4d5_26) rfl (Jvm.Stand.ldc2J X3 hx hown (mvT hZ (hw _ (List.mem_of_getElem? (i := 37) rfl))) rfl (hb hby g4d5_27) (XS.ldiv X3.here hx rfl (hb hby g4d5_30) rfl (by decide) k)))))) ?_
  obtain ⟨fs, hr, hrun, hended, hW, hsame⟩ := X3.leave (v := (some (.long ((((((q1 + (4 : Int64)) - (1 : Int64)) / (4 : Int64)) * (bb).toInt64) + (7 : Int64)) / (8 : Int64))))) (fun h => by rw [hret] at h; cases h)
  refine Wp.done (retOut X3 hx hret rfl (Or.inr (Or.inl ⟨rfl, rfl, _, rfl⟩)) (hb hby g4d5_31) hr) hrun hended ⟨_, _, rfl, ?_, ⟨_, rfl⟩, hW, hsame.mono (by decide) (by decide)⟩
  show Q_by4 Z ar q1 bb h0 n0 _ T3.heap _
  rw [e3]
  exact ⟨rfl, N0, (Keep.refl h0 [])⟩
def Q_be4 (Z : State) (ar : Addr) (bb : Int32) (h0 : Heap) (n0 : Nat) (v : Option Value) (h : Heap) (L : List Loc) : Prop := v = some (.long ((((8 : Int64) * (bb).toInt64) + (7 : Int64)) / (8 : Int64))) ∧ Fr n0 L ∧ Keep h0 h []
theorem e4d5_0 : decode prog_4_method_6_code 0 = .ok (.lload_n 1, 1) := by decide +kernel
theorem e4d5_1 : decode prog_4_method_6_code 1 = .ok (.aload_n 0, 1) := by decide +kernel
theorem e4d5_2 : decode prog_4_method_6_code 2 = .ok (.getfield 32, 3) := by decide +kernel
theorem e4d5_5 : decode prog_4_method_6_code 5 = .ok (.i2l, 1) := by decide +kernel
theorem e4d5_6 : decode prog_4_method_6_code 6 = .ok (.ladd, 1) := by decide +kernel
theorem e4d5_7 : decode prog_4_method_6_code 7 = .ok (.lconst 1, 1) := by decide +kernel
theorem e4d5_8 : decode prog_4_method_6_code 8 = .ok (.lsub, 1) := by decide +kernel
theorem e4d5_9 : decode prog_4_method_6_code 9 = .ok (.aload_n 0, 1) := by decide +kernel
theorem e4d5_10 : decode prog_4_method_6_code 10 = .ok (.getfield 32, 3) := by decide +kernel
theorem e4d5_13 : decode prog_4_method_6_code 13 = .ok (.i2l, 1) := by decide +kernel
theorem e4d5_14 : decode prog_4_method_6_code 14 = .ok (.ldiv, 1) := by decide +kernel
theorem e4d5_15 : decode prog_4_method_6_code 15 = .ok (.lstore_n 3, 1) := by decide +kernel
theorem e4d5_16 : decode prog_4_method_6_code 16 = .ok (.lload_n 3, 1) := by decide +kernel
theorem e4d5_17 : decode prog_4_method_6_code 17 = .ok (.aload_n 0, 1) := by decide +kernel
theorem e4d5_18 : decode prog_4_method_6_code 18 = .ok (.getfield 41, 3) := by decide +kernel
theorem e4d5_21 : decode prog_4_method_6_code 21 = .ok (.i2l, 1) := by decide +kernel
theorem e4d5_22 : decode prog_4_method_6_code 22 = .ok (.lmul, 1) := by decide +kernel
theorem e4d5_23 : decode prog_4_method_6_code 23 = .ok (.ldc2_w 48, 3) := by decide +kernel
theorem e4d5_26 : decode prog_4_method_6_code 26 = .ok (.ladd, 1) := by decide +kernel
theorem e4d5_27 : decode prog_4_method_6_code 27 = .ok (.ldc2_w 50, 3) := by decide +kernel
theorem e4d5_30 : decode prog_4_method_6_code 30 = .ok (.ldiv, 1) := by decide +kernel
theorem e4d5_31 : decode prog_4_method_6_code 31 = .ok (.lreturn, 1) := by decide +kernel
theorem e4pn5 : plainName "com/example/known_leaks/knownleaks/CellPacking" = true := by first | (simp [plainName, overriddenIn]; done) | decide +kernel
theorem e4ef5 (m : MethodId) (x0 : Addr) (x1 : Int64) : entryFrame m #[(.ref x0), (.long x1)] 5 = mkF m 0 #[.val (.ref x0), .val (.long x1), .second, .unset, .unset] [] := by first | (simp [entryFrame, mkF, argsToLocals, Value.category]; done) | rfl
set_option maxRecDepth 65536 in
set_option maxHeartbeats 40000000 in
theorem rm_be4 (l : Launch) (Z : State) (a0 : Array Value) (hw : ∀ d ∈ tables_1, d.before a0 Z = true) (ws : List Jvm.Cond) (ar : Addr) (bb : Int32) (h0 : Heap) (n0 : Nat) (Z0 : n0 ≤ h0.size) (H0 : Fld Z h0 ar "com/example/known_leaks/knownleaks/CellPacking" "cellsPerBlock" "I" (.int (4 : Int32))) (H1 : Fld Z h0 ar "com/example/known_leaks/knownleaks/CellPacking" "blockBits" "I" (.int bb)) :
    MetFree l (⟨"com/example/known_leaks/knownleaks/CellPacking", "bytes", "(J)J"⟩ : MethodName) (head1 (Jvm.Cond.code (⟨"com/example/known_leaks/knownleaks/CellPacking", "bytes", "(J)J"⟩ : MethodName) prog_4_method_6_code 5 (some .long) :: ws) ({ frames := 0, cells := 0, slots := 0, locals := 0 } : Room)) (fun a U => a = #[(.ref ar), (.long (32 : Int64))] ∧ Z.Warmed39 U.vm ∧ U.heap = h0) (fun _ _ _ _ _ => True) (fun _ U o U' => ∃ v L, o = .returned v ∧ Q_be4 Z ar bb h0 n0 v U'.heap L ∧ FrameEnd U o U' L ({ frames := 0, cells := 0, slots := 0, locals := 0 } : Room).cells ({ frames := 0, cells := 0, slots := 0, locals := 0 } : Room).slots) := by
  refine MetFree.of_bodySF (plainFor_of_name e4pn5) hisR ?_
  intro p e s m args below meth c s₁ Bd hml0 hP hK
  obtain ⟨rfl, hZ, hh⟩ := hP
  have hx := Bd.exec
  have hby := Bd.bytes
  have hret := Bd.returns
  have hlk := Bd.notSynchronized
  have hml : c.maxLocals = 5 := hml0
  have hown : s.vm.findClass "com/example/known_leaks/knownleaks/CellPacking" = some m.cls := findClass_of_methodNamed Bd.named
  have hnm := (name_of_methodNamed Bd.named Bd.method).1
  have X0 : Stand p l e ({ frames := 0, cells := 0, slots := 0, locals := 0 } : Room) s m #[(.ref ar), (.long (32 : Int64))] below meth c s₁ [] 0 0 := Stand.of_body Bd
  have e0 : s₁.heap = h0 := by rw [← hh, Bd.state]; rfl
  have N0 := Fr.nil n0
  show Wp p e below (fun o s₂ => ∃ v L, o = .returned v ∧ Q_be4 Z ar bb h0 n0 v s₂.heap L ∧ FrameEnd s o s₂ L ({ frames := 0, cells := 0, slots := 0, locals := 0 } : Room).cells ({ frames := 0, cells := 0, slots := 0, locals := 0 } : Room).slots) _
  refine Wp.back (U' := (s₁.setTop (mkF m 0 #[.val (.ref ar), .val (.long (32 : Int64)), .second, .unset, .unset] []))) (fun t k => castTop (e4ef5 m ar (32 : Int64)) k) ?_
  refine Wp.back (U' := (s₁.setTop (mkF m 2 #[.val (.ref ar), .val (.long (32 : Int64)), .second, .unset, .unset] [(.ref ar), (.long (32 : Int64))]))) (fun t k => XS.lloadN X0.here hx rfl (hb hby e4d5_0) rfl (XS.aloadN X0.here hx rfl (hb hby e4d5_1) rfl rfl k)) ?_
  obtain ⟨T1, X1, e1, st1⟩ := getF X0 hx hZ hown (host := "") (Or.inl (hw _ (List.mem_of_getElem? (i := 17) rfl))) Via.refl e0 H0 (g := (mkF m 2 #[.val (.ref ar), .val (.long (32 : Int64)), .second, .unset, .unset] [(.ref ar), (.long (32 : Int64))])) rfl rfl (hb hby e4d5_2)
  refine Wp.back (U' := (T1.setTop (mkF m 5 #[.val (.ref ar), .val (.long (32 : Int64)), .second, .unset, .unset] [(.int (4 : Int32)), (.long (32 : Int64))]))) st1 ?_
  refine Wp.back (U' := (T1.setTop (mkF m 10 #[.val (.ref ar), .val (.long (32 : Int64)), .second, .unset, .unset] [(.ref ar), (.long (35 : Int64))]))) (fun t k => XS.i2l X1.here hx rfl (hb hby e4d5_5) rfl (XS.ladd X1.here hx rfl (hb hby e4d5_6) rfl (XT.lconstV X1.here hx rfl (1 : Int64) (hb hby e4d5_7) (by decide) (XS.lsub X1.here hx rfl (hb hby e4d5_8) rfl (XS.aloadN X1.here hx rfl (hb hby e4d5_9) rfl rfl k))))) ?_
  obtain ⟨T2, X2, e2, st2⟩ := getF X1 hx hZ hown (host := "") (Or.inl (hw _ (List.mem_of_getElem? (i := 17) rfl))) Via.refl e1 H0 (g := (mkF m 10 #[.val (.ref ar), .val (.long (32 : Int64)), .second, .unset, .unset] [(.ref ar), (.long (35 : Int64))])) rfl rfl (hb hby e4d5_10)
  refine Wp.back (U' := (T2.setTop (mkF m 13 #[.val (.ref ar), .val (.long (32 : Int64)), .second, .unset, .unset] [(.int (4 : Int32)), (.long (35 : Int64))]))) st2 ?_
  refine Wp.back (U' := (T2.setTop (mkF m 18 #[.val (.ref ar), .val (.long (32 : Int64)), .second, .val (.long (8 : Int64)), .second] [(.ref ar), (.long (8 : Int64))]))) (fun t k => XS.i2l X2.here hx rfl (hb hby e4d5_13) rfl (XS.ldiv X2.here hx rfl (hb hby e4d5_14) rfl (by decide) (XS.lstoreN X2.here hx rfl (hb hby e4d5_15) rfl (l' := #[.val (.ref ar), .val (.long (32 : Int64)), .second, .val (.long (8 : Int64)), .second]) rfl (XS.lloadN X2.here hx rfl (hb hby e4d5_16) rfl (XS.aloadN X2.here hx rfl (hb hby e4d5_17) rfl rfl k))))) ?_
  obtain ⟨T3, X3, e3, st3⟩ := getF X2 hx hZ hown (host := "") (Or.inl (hw _ (List.mem_of_getElem? (i := 28) rfl))) Via.refl e2 H1 (g := (mkF m 18 #[.val (.ref ar), .val (.long (32 : Int64)), .second, .val (.long (8 : Int64)), .second] [(.ref ar), (.long (8 : Int64))])) rfl rfl (hb hby e4d5_18)
  refine Wp.back (U' := (T3.setTop (mkF m 21 #[.val (.ref ar), .val (.long (32 : Int64)), .second, .val (.long (8 : Int64)), .second] [(.int bb), (.long (8 : Int64))]))) st3 ?_
  refine Wp.back (U' := (T3.setTop (mkF m 31 #[.val (.ref ar), .val (.long (32 : Int64)), .second, .val (.long (8 : Int64)), .second] [(.long ((((8 : Int64) * (bb).toInt64) + (7 : Int64)) / (8 : Int64)))]))) (fun t k => XS.i2l X3.here hx rfl (hb hby e4d5_21) rfl (XS.lmul X3.here hx rfl (hb hby e4d5_22) rfl (Jvm.Stand.ldc2J X3 hx hown (mvT hZ (hw _ (List.mem_of_getElem? (i := 36) rfl))) rfl (hb hby e4d5_23) (XS.ladd X3.here hx rfl (hb hby e4d5_26) rfl (Jvm.Stand.ldc2J X3 hx hown (mvT hZ (hw _ (List.mem_of_getElem? (i := 37) rfl))) rfl (hb hby e4d5_27) (XS.ldiv X3.here hx rfl (hb hby e4d5_30) rfl (by decide) k)))))) ?_
  obtain ⟨fs, hr, hrun, hended, hW, hsame⟩ := X3.leave (v := (some (.long ((((8 : Int64) * (bb).toInt64) + (7 : Int64)) / (8 : Int64))))) (fun h => by rw [hret] at h; cases h)
  refine Wp.done (retOut X3 hx hret rfl (Or.inr (Or.inl ⟨rfl, rfl, _, rfl⟩)) (hb hby e4d5_31) hr) hrun hended ⟨_, _, rfl, ?_, ⟨_, rfl⟩, hW, hsame.mono (by decide) (by decide)⟩
  show Q_be4 Z ar bb h0 n0 _ T3.heap _
  rw [e3]
  exact ⟨rfl, N0, (Keep.refl h0 [])⟩
theorem own_g (p1 : Int32) : ((1 : Int32) + (p1 &&& (3 : Int32))) = (1 : Int32) ∨ ((1 : Int32) + (p1 &&& (3 : Int32))) = (2 : Int32) ∨ ((1 : Int32) + (p1 &&& (3 : Int32))) = (3 : Int32) ∨ ((1 : Int32) + (p1 &&& (3 : Int32))) = (4 : Int32) := by
  have h1 := c_mask p1 3 2 (by decide) (by decide)
  have h2 := c_iadd 1 (p1 &&& 3)
  have r := rng32 (1 + (p1 &&& 3))
  have e1 : (1 : Int32).toInt = 1 := by decide
  have e2 : (2 : Int32).toInt = 2 := by decide
  have e3 : (3 : Int32).toInt = 3 := by decide
  have e4 : (4 : Int32).toInt = 4 := by decide
  simp only [← Int32.toInt_inj, e1, e2, e3, e4]
  omega
theorem own_m1 (p0 : Int32) : 2 ≤ ((2 : Int64) + (((p0 &&& (2147483647 : Int32)) % (2147483646 : Int32))).toInt64).toInt ∧ ((2 : Int64) + (((p0 &&& (2147483647 : Int32)) % (2147483646 : Int32))).toInt64).toInt < 2147483648 := by
  have h1 := c_mask p0 2147483647 31 (by decide) (by decide)
  have h2 := (c_irem (p0 &&& 2147483647) 2147483646 2147483646 (by decide)).1 (by omega)
  have h3 := c_i2l ((p0 &&& 2147483647) % 2147483646)
  have h4 := c_ladd 2 (((p0 &&& 2147483647) % 2147483646)).toInt64
  have r := rng64 (2 + (((p0 &&& 2147483647) % 2147483646)).toInt64)
  have e1 : (2 : Int64).toInt = 2 := by decide
  omega
theorem own_m2 (p0 : Int32) : 2 ≤ ((2 : Int64) + ((p0 &&& (268435455 : Int32))).toInt64).toInt ∧ ((2 : Int64) + ((p0 &&& (268435455 : Int32))).toInt64).toInt < 2147483648 := by
  have h1 := c_mask p0 268435455 28 (by decide) (by decide)
  have h3 := c_i2l (p0 &&& 268435455)
  have h4 := c_ladd 2 (p0 &&& 268435455).toInt64
  have r := rng64 (2 + (p0 &&& 268435455).toInt64)
  have e1 : (2 : Int64).toInt = 2 := by decide
  omega
theorem own_m3 (p0 : Int32) : 2 ≤ ((2 : Int64) + ((p0 &&& (524287 : Int32))).toInt64).toInt ∧ ((2 : Int64) + ((p0 &&& (524287 : Int32))).toInt64).toInt < 2147483648 := by
  have h1 := c_mask p0 524287 19 (by decide) (by decide)
  have h3 := c_i2l (p0 &&& 524287)
  have h4 := c_ladd 2 (p0 &&& 524287).toInt64
  have r := rng64 (2 + (p0 &&& 524287).toInt64)
  have e1 : (2 : Int64).toInt = 2 := by decide
  omega
theorem own_m4 (p0 : Int32) : 2 ≤ ((2 : Int64) + ((p0 &&& (16383 : Int32))).toInt64).toInt ∧ ((2 : Int64) + ((p0 &&& (16383 : Int32))).toInt64).toInt < 2147483648 := by
  have h1 := c_mask p0 16383 14 (by decide) (by decide)
  have h3 := c_i2l (p0 &&& 16383)
  have h4 := c_ladd 2 (p0 &&& 16383).toInt64
  have r := rng64 (2 + (p0 &&& 16383).toInt64)
  have e1 : (2 : Int64).toInt = 2 := by decide
  omega
theorem own_mz {mm : Int64} (hm : 2 ≤ mm.toInt ∧ mm.toInt < 2147483648) : mm ≠ 0 := fun q => by
  rw [q] at hm
  exact absurd hm (by decide)
theorem own_bk {mm : Int64} (hm : 2 ≤ mm.toInt ∧ mm.toInt < 2147483648) : ((mm).toInt32).toInt64 = mm := by
  apply Int64.toInt_inj.mp
  have h1 := c_l2i mm
  have h2 := c_i2l mm.toInt32
  have r := rng32 mm.toInt32
  omega
theorem own_c2 {mm : Int64} (hm : 2 ≤ mm.toInt ∧ mm.toInt < 2147483648) : ¬ (mm).toInt32 < (2 : Int32) := by
  have h1 := c_l2i mm
  have r := rng32 mm.toInt32
  have e1 : (2 : Int32).toInt = 2 := by decide
  rw [Int32.lt_iff_toInt_lt]
  omega
theorem own_cz {mm : Int64} (hm : 2 ≤ mm.toInt ∧ mm.toInt < 2147483648) : ((mm).toInt32).toInt64 ≠ 0 := by
  rw [own_bk hm]
  exact own_mz hm
theorem own_lim {mm : Int64} (hm : 2 ≤ mm.toInt ∧ mm.toInt < 2147483648) : ((144115188075855872 : Int64) / mm).toInt = 144115188075855872 / mm.toInt := by
  have hd : mm ≠ -1 := fun q => by
    rw [q] at hm
    exact absurd hm (by decide)
  have h := (c_ldiv 144115188075855872 mm mm.toInt rfl hd).1 (by decide)
  rw [h]
  rfl
theorem own_p1_0 {mm : Int64} (hm : 2 ≤ mm.toInt ∧ mm.toInt < 2147483648) : ¬ ((144115188075855872 : Int64) / ((mm).toInt32).toInt64) < (1 : Int64) := by
  rw [own_bk hm]
  rw [Int64.lt_iff_toInt_lt, own_lim hm]
  have e1 : (1 : Int64).toInt = 1 := by decide
  rw [e1]
  have : 144115188075855872 / 2147483648 ≤ 144115188075855872 / mm.toInt := by
    apply (Int.le_ediv_iff_mul_le (by omega)).mpr
    have := hm.2
    omega
  omega
theorem own_p2_0 {mm : Int64} (hm : 2 ≤ mm.toInt ∧ mm.toInt < 2147483648) (h1 : ¬ ((144115188075855872 : Int64) / mm) < mm) : ¬ ((144115188075855872 : Int64) / ((mm).toInt32).toInt64) < (1 : Int64) := by
  rw [own_bk hm]
  rw [Int64.lt_iff_toInt_lt, own_lim hm]
  have e1 : (1 : Int64).toInt = 1 := by decide
  rw [e1]
  have : 144115188075855872 / 2147483648 ≤ 144115188075855872 / mm.toInt := by
    apply (Int.le_ediv_iff_mul_le (by omega)).mpr
    have := hm.2
    omega
  omega
theorem own_p2_1 {mm : Int64} (hm : 2 ≤ mm.toInt ∧ mm.toInt < 2147483648) (h1 : ¬ ((144115188075855872 : Int64) / mm) < mm) : ¬ ((144115188075855872 : Int64) / ((mm).toInt32).toInt64) < ((1 : Int64) * ((mm).toInt32).toInt64) := by
  rw [own_bk hm, Int64.one_mul]
  exact h1
theorem own_p3_0 {mm : Int64} (hm : 2 ≤ mm.toInt ∧ mm.toInt < 2147483648) (h1 : ¬ ((144115188075855872 : Int64) / mm) < mm) (h2 : ¬ ((144115188075855872 : Int64) / mm) < (mm * mm)) : ¬ ((144115188075855872 : Int64) / ((mm).toInt32).toInt64) < (1 : Int64) := by
  rw [own_bk hm]
  rw [Int64.lt_iff_toInt_lt, own_lim hm]
  have e1 : (1 : Int64).toInt = 1 := by decide
  rw [e1]
  have : 144115188075855872 / 2147483648 ≤ 144115188075855872 / mm.toInt := by
    apply (Int.le_ediv_iff_mul_le (by omega)).mpr
    have := hm.2
    omega
  omega
theorem own_p3_1 {mm : Int64} (hm : 2 ≤ mm.toInt ∧ mm.toInt < 2147483648) (h1 : ¬ ((144115188075855872 : Int64) / mm) < mm) (h2 : ¬ ((144115188075855872 : Int64) / mm) < (mm * mm)) : ¬ ((144115188075855872 : Int64) / ((mm).toInt32).toInt64) < ((1 : Int64) * ((mm).toInt32).toInt64) := by
  rw [own_bk hm, Int64.one_mul]
  exact h1
theorem own_p3_2 {mm : Int64} (hm : 2 ≤ mm.toInt ∧ mm.toInt < 2147483648) (h1 : ¬ ((144115188075855872 : Int64) / mm) < mm) (h2 : ¬ ((144115188075855872 : Int64) / mm) < (mm * mm)) : ¬ ((144115188075855872 : Int64) / ((mm).toInt32).toInt64) < (((1 : Int64) * ((mm).toInt32).toInt64) * ((mm).toInt32).toInt64) := by
  rw [own_bk hm, Int64.one_mul]
  exact h2
theorem own_p4_0 {mm : Int64} (hm : 2 ≤ mm.toInt ∧ mm.toInt < 2147483648) (h1 : ¬ ((144115188075855872 : Int64) / mm) < mm) (h2 : ¬ ((144115188075855872 : Int64) / mm) < (mm * mm)) (h3 : ¬ ((144115188075855872 : Int64) / mm) < ((mm * mm) * mm)) : ¬ ((144115188075855872 : Int64) / ((mm).toInt32).toInt64) < (1 : Int64) := by
  rw [own_bk hm]
  rw [Int64.lt_iff_toInt_lt, own_lim hm]
  have e1 : (1 : Int64).toInt = 1 := by decide
  rw [e1]
  have : 144115188075855872 / 2147483648 ≤ 144115188075855872 / mm.toInt := by
    apply (Int.le_ediv_iff_mul_le (by omega)).mpr
    have := hm.2
    omega
  omega
theorem own_p4_1 {mm : Int64} (hm : 2 ≤ mm.toInt ∧ mm.toInt < 2147483648) (h1 : ¬ ((144115188075855872 : Int64) / mm) < mm) (h2 : ¬ ((144115188075855872 : Int64) / mm) < (mm * mm)) (h3 : ¬ ((144115188075855872 : Int64) / mm) < ((mm * mm) * mm)) : ¬ ((144115188075855872 : Int64) / ((mm).toInt32).toInt64) < ((1 : Int64) * ((mm).toInt32).toInt64) := by
  rw [own_bk hm, Int64.one_mul]
  exact h1
theorem own_p4_2 {mm : Int64} (hm : 2 ≤ mm.toInt ∧ mm.toInt < 2147483648) (h1 : ¬ ((144115188075855872 : Int64) / mm) < mm) (h2 : ¬ ((144115188075855872 : Int64) / mm) < (mm * mm)) (h3 : ¬ ((144115188075855872 : Int64) / mm) < ((mm * mm) * mm)) : ¬ ((144115188075855872 : Int64) / ((mm).toInt32).toInt64) < (((1 : Int64) * ((mm).toInt32).toInt64) * ((mm).toInt32).toInt64) := by
  rw [own_bk hm, Int64.one_mul]
  exact h2
theorem own_p4_3 {mm : Int64} (hm : 2 ≤ mm.toInt ∧ mm.toInt < 2147483648) (h1 : ¬ ((144115188075855872 : Int64) / mm) < mm) (h2 : ¬ ((144115188075855872 : Int64) / mm) < (mm * mm)) (h3 : ¬ ((144115188075855872 : Int64) / mm) < ((mm * mm) * mm)) : ¬ ((144115188075855872 : Int64) / ((mm).toInt32).toInt64) < ((((1 : Int64) * ((mm).toInt32).toInt64) * ((mm).toInt32).toInt64) * ((mm).toInt32).toInt64) := by
  rw [own_bk hm, Int64.one_mul]
  exact h3
theorem own_inz (x : Int32) (h : 0 < x.toInt) : ∃ k : Nat, k < 31 ∧ (f_inz x).toInt = 31 - (k : Int) ∧ ((2 ^ k : Nat) : Int) ≤ x.toInt ∧ x.toInt < ((2 ^ (k + 1) : Nat) : Int) := by
  have r := rng32 x
  have e0 : (0 : Int32).toInt = 0 := by decide
  have s1 : ∀ y : Int32, 0 ≤ y.toInt → (((y).toUInt32 >>> ((1 : Int32) &&& 31).toUInt32).toInt32).toInt = y.toInt / 2 := fun y hy => by
    have := c_iushr y 1 1 (by decide) (by decide)
    have r := rng32 y
    rw [this]
    omega
  have s2 : ∀ y : Int32, 0 ≤ y.toInt → (((y).toUInt32 >>> ((2 : Int32) &&& 31).toUInt32).toInt32).toInt = y.toInt / 4 := fun y hy => by
    have := c_iushr y 2 2 (by decide) (by decide)
    have r := rng32 y
    rw [this]
    omega
  have s4 : ∀ y : Int32, 0 ≤ y.toInt → (((y).toUInt32 >>> ((4 : Int32) &&& 31).toUInt32).toInt32).toInt = y.toInt / 16 := fun y hy => by
    have := c_iushr y 4 4 (by decide) (by decide)
    have r := rng32 y
    rw [this]
    omega
  have s8 : ∀ y : Int32, 0 ≤ y.toInt → (((y).toUInt32 >>> ((8 : Int32) &&& 31).toUInt32).toInt32).toInt = y.toInt / 256 := fun y hy => by
    have := c_iushr y 8 8 (by decide) (by decide)
    have r := rng32 y
    rw [this]
    omega
  have s16 : ∀ y : Int32, 0 ≤ y.toInt → (((y).toUInt32 >>> ((16 : Int32) &&& 31).toUInt32).toInt32).toInt = y.toInt / 65536 := fun y hy => by
    have := c_iushr y 16 16 (by decide) (by decide)
    have r := rng32 y
    rw [this]
    omega
  rw [f_inz, if_pos (show (0 : Int32) < x by rw [Int32.lt_iff_toInt_lt, e0]; exact h)]
  by_cases c0 : (x).toInt < 65536
  · rw [if_pos (show x < (65536 : Int32) by rw [Int32.lt_iff_toInt_lt]; exact c0)]
    by_cases c1 : (x).toInt < 256
    · rw [if_pos (show x < (256 : Int32) by rw [Int32.lt_iff_toInt_lt]; exact c1)]
      by_cases c2 : (x).toInt < 16
      · rw [if_pos (show x < (16 : Int32) by rw [Int32.lt_iff_toInt_lt]; exact c2)]
        by_cases c3 : (x).toInt < 4
        · rw [if_pos (show x < (4 : Int32) by rw [Int32.lt_iff_toInt_lt]; exact c3)]
          have t := s1 x (by omega)
          have d := c_isub (31 : Int32) (((x).toUInt32 >>> ((1 : Int32) &&& 31).toUInt32).toInt32)
          have e : (31 : Int32).toInt = 31 := by decide
          have q := rng32 ((31 : Int32) - (((x).toUInt32 >>> ((1 : Int32) &&& 31).toUInt32).toInt32))
          by_cases hz : (x).toInt < 2
          · exact ⟨0, by omega, by omega, by simp only [Nat.reducePow, Nat.reduceAdd]; omega, by simp only [Nat.reducePow, Nat.reduceAdd]; omega⟩
          · exact ⟨1, by omega, by omega, by simp only [Nat.reducePow, Nat.reduceAdd]; omega, by simp only [Nat.reducePow, Nat.reduceAdd]; omega⟩
        · rw [if_neg (show ¬ x < (4 : Int32) by rw [Int32.lt_iff_toInt_lt]; exact c3)]
          have y3 := s2 x (by omega)
          have t := s1 (((x).toUInt32 >>> ((2 : Int32) &&& 31).toUInt32).toInt32) (by omega)
          have d := c_isub (29 : Int32) ((((((x).toUInt32 >>> ((2 : Int32) &&& 31).toUInt32).toInt32)).toUInt32 >>> ((1 : Int32) &&& 31).toUInt32).toInt32)
          have e : (29 : Int32).toInt = 29 := by decide
          have q := rng32 ((29 : Int32) - ((((((x).toUInt32 >>> ((2 : Int32) &&& 31).toUInt32).toInt32)).toUInt32 >>> ((1 : Int32) &&& 31).toUInt32).toInt32))
          by_cases hz : ((((x).toUInt32 >>> ((2 : Int32) &&& 31).toUInt32).toInt32)).toInt < 2
          · exact ⟨2, by omega, by omega, by simp only [Nat.reducePow, Nat.reduceAdd]; omega, by simp only [Nat.reducePow, Nat.reduceAdd]; omega⟩
          · exact ⟨3, by omega, by omega, by simp only [Nat.reducePow, Nat.reduceAdd]; omega, by simp only [Nat.reducePow, Nat.reduceAdd]; omega⟩
      · rw [if_neg (show ¬ x < (16 : Int32) by rw [Int32.lt_iff_toInt_lt]; exact c2)]
        have y2 := s4 x (by omega)
        by_cases c3 : ((((x).toUInt32 >>> ((4 : Int32) &&& 31).toUInt32).toInt32)).toInt < 4
        · rw [if_pos (show (((x).toUInt32 >>> ((4 : Int32) &&& 31).toUInt32).toInt32) < (4 : Int32) by rw [Int32.lt_iff_toInt_lt]; exact c3)]
          have t := s1 (((x).toUInt32 >>> ((4 : Int32) &&& 31).toUInt32).toInt32) (by omega)
          have d := c_isub (27 : Int32) ((((((x).toUInt32 >>> ((4 : Int32) &&& 31).toUInt32).toInt32)).toUInt32 >>> ((1 : Int32) &&& 31).toUInt32).toInt32)
          have e : (27 : Int32).toInt = 27 := by decide
          have q := rng32 ((27 : Int32) - ((((((x).toUInt32 >>> ((4 : Int32) &&& 31).toUInt32).toInt32)).toUInt32 >>> ((1 : Int32) &&& 31).toUInt32).toInt32))
          by_cases hz : ((((x).toUInt32 >>> ((4 : Int32) &&& 31).toUInt32).toInt32)).toInt < 2
          · exact ⟨4, by omega, by omega, by simp only [Nat.reducePow, Nat.reduceAdd]; omega, by simp only [Nat.reducePow, Nat.reduceAdd]; omega⟩
          · exact ⟨5, by omega, by omega, by simp only [Nat.reducePow, Nat.reduceAdd]; omega, by simp only [Nat.reducePow, Nat.reduceAdd]; omega⟩
        · rw [if_neg (show ¬ (((x).toUInt32 >>> ((4 : Int32) &&& 31).toUInt32).toInt32) < (4 : Int32) by rw [Int32.lt_iff_toInt_lt]; exact c3)]
          have y3 := s2 (((x).toUInt32 >>> ((4 : Int32) &&& 31).toUInt32).toInt32) (by omega)
          have t := s1 ((((((x).toUInt32 >>> ((4 : Int32) &&& 31).toUInt32).toInt32)).toUInt32 >>> ((2 : Int32) &&& 31).toUInt32).toInt32) (by omega)
          have d := c_isub (25 : Int32) (((((((((x).toUInt32 >>> ((4 : Int32) &&& 31).toUInt32).toInt32)).toUInt32 >>> ((2 : Int32) &&& 31).toUInt32).toInt32)).toUInt32 >>> ((1 : Int32) &&& 31).toUInt32).toInt32)
          have e : (25 : Int32).toInt = 25 := by decide
          have q := rng32 ((25 : Int32) - (((((((((x).toUInt32 >>> ((4 : Int32) &&& 31).toUInt32).toInt32)).toUInt32 >>> ((2 : Int32) &&& 31).toUInt32).toInt32)).toUInt32 >>> ((1 : Int32) &&& 31).toUInt32).toInt32))
          by_cases hz : (((((((x).toUInt32 >>> ((4 : Int32) &&& 31).toUInt32).toInt32)).toUInt32 >>> ((2 : Int32) &&& 31).toUInt32).toInt32)).toInt < 2
          · exact ⟨6, by omega, by omega, by simp only [Nat.reducePow, Nat.reduceAdd]; omega, by simp only [Nat.reducePow, Nat.reduceAdd]; omega⟩
          · exact ⟨7, by omega, by omega, by simp only [Nat.reducePow, Nat.reduceAdd]; omega, by simp only [Nat.reducePow, Nat.reduceAdd]; omega⟩
    · rw [if_neg (show ¬ x < (256 : Int32) by rw [Int32.lt_iff_toInt_lt]; exact c1)]
      have y1 := s8 x (by omega)
      by_cases c2 : ((((x).toUInt32 >>> ((8 : Int32) &&& 31).toUInt32).toInt32)).toInt < 16
      · rw [if_pos (show (((x).toUInt32 >>> ((8 : Int32) &&& 31).toUInt32).toInt32) < (16 : Int32) by rw [Int32.lt_iff_toInt_lt]; exact c2)]
        by_cases c3 : ((((x).toUInt32 >>> ((8 : Int32) &&& 31).toUInt32).toInt32)).toInt < 4
        · rw [if_pos (show (((x).toUInt32 >>> ((8 : Int32) &&& 31).toUInt32).toInt32) < (4 : Int32) by rw [Int32.lt_iff_toInt_lt]; exact c3)]
          have t := s1 (((x).toUInt32 >>> ((8 : Int32) &&& 31).toUInt32).toInt32) (by omega)
          have d := c_isub (23 : Int32) ((((((x).toUInt32 >>> ((8 : Int32) &&& 31).toUInt32).toInt32)).toUInt32 >>> ((1 : Int32) &&& 31).toUInt32).toInt32)
          have e : (23 : Int32).toInt = 23 := by decide
          have q := rng32 ((23 : Int32) - ((((((x).toUInt32 >>> ((8 : Int32) &&& 31).toUInt32).toInt32)).toUInt32 >>> ((1 : Int32) &&& 31).toUInt32).toInt32))
          by_cases hz : ((((x).toUInt32 >>> ((8 : Int32) &&& 31).toUInt32).toInt32)).toInt < 2
          · exact ⟨8, by omega, by omega, by simp only [Nat.reducePow, Nat.reduceAdd]; omega, by simp only [Nat.reducePow, Nat.reduceAdd]; omega⟩
          · exact ⟨9, by omega, by omega, by simp only [Nat.reducePow, Nat.reduceAdd]; omega, by simp only [Nat.reducePow, Nat.reduceAdd]; omega⟩
        · rw [if_neg (show ¬ (((x).toUInt32 >>> ((8 : Int32) &&& 31).toUInt32).toInt32) < (4 : Int32) by rw [Int32.lt_iff_toInt_lt]; exact c3)]
          have y3 := s2 (((x).toUInt32 >>> ((8 : Int32) &&& 31).toUInt32).toInt32) (by omega)
          have t := s1 ((((((x).toUInt32 >>> ((8 : Int32) &&& 31).toUInt32).toInt32)).toUInt32 >>> ((2 : Int32) &&& 31).toUInt32).toInt32) (by omega)
          have d := c_isub (21 : Int32) (((((((((x).toUInt32 >>> ((8 : Int32) &&& 31).toUInt32).toInt32)).toUInt32 >>> ((2 : Int32) &&& 31).toUInt32).toInt32)).toUInt32 >>> ((1 : Int32) &&& 31).toUInt32).toInt32)
          have e : (21 : Int32).toInt = 21 := by decide
          have q := rng32 ((21 : Int32) - (((((((((x).toUInt32 >>> ((8 : Int32) &&& 31).toUInt32).toInt32)).toUInt32 >>> ((2 : Int32) &&& 31).toUInt32).toInt32)).toUInt32 >>> ((1 : Int32) &&& 31).toUInt32).toInt32))
          by_cases hz : (((((((x).toUInt32 >>> ((8 : Int32) &&& 31).toUInt32).toInt32)).toUInt32 >>> ((2 : Int32) &&& 31).toUInt32).toInt32)).toInt < 2
          · exact ⟨10, by omega, by omega, by simp only [Nat.reducePow, Nat.reduceAdd]; omega, by simp only [Nat.reducePow, Nat.reduceAdd]; omega⟩
          · exact ⟨11, by omega, by omega, by simp only [Nat.reducePow, Nat.reduceAdd]; omega, by simp only [Nat.reducePow, Nat.reduceAdd]; omega⟩
      · rw [if_neg (show ¬ (((x).toUInt32 >>> ((8 : Int32) &&& 31).toUInt32).toInt32) < (16 : Int32) by rw [Int32.lt_iff_toInt_lt]; exact c2)]
        have y2 := s4 (((x).toUInt32 >>> ((8 : Int32) &&& 31).toUInt32).toInt32) (by omega)
        by_cases c3 : (((((((x).toUInt32 >>> ((8 : Int32) &&& 31).toUInt32).toInt32)).toUInt32 >>> ((4 : Int32) &&& 31).toUInt32).toInt32)).toInt < 4
        · rw [if_pos (show ((((((x).toUInt32 >>> ((8 : Int32) &&& 31).toUInt32).toInt32)).toUInt32 >>> ((4 : Int32) &&& 31).toUInt32).toInt32) < (4 : Int32) by rw [Int32.lt_iff_toInt_lt]; exact c3)]
          have t := s1 ((((((x).toUInt32 >>> ((8 : Int32) &&& 31).toUInt32).toInt32)).toUInt32 >>> ((4 : Int32) &&& 31).toUInt32).toInt32) (by omega)
          have d := c_isub (19 : Int32) (((((((((x).toUInt32 >>> ((8 : Int32) &&& 31).toUInt32).toInt32)).toUInt32 >>> ((4 : Int32) &&& 31).toUInt32).toInt32)).toUInt32 >>> ((1 : Int32) &&& 31).toUInt32).toInt32)
          have e : (19 : Int32).toInt = 19 := by decide
          have q := rng32 ((19 : Int32) - (((((((((x).toUInt32 >>> ((8 : Int32) &&& 31).toUInt32).toInt32)).toUInt32 >>> ((4 : Int32) &&& 31).toUInt32).toInt32)).toUInt32 >>> ((1 : Int32) &&& 31).toUInt32).toInt32))
          by_cases hz : (((((((x).toUInt32 >>> ((8 : Int32) &&& 31).toUInt32).toInt32)).toUInt32 >>> ((4 : Int32) &&& 31).toUInt32).toInt32)).toInt < 2
          · exact ⟨12, by omega, by omega, by simp only [Nat.reducePow, Nat.reduceAdd]; omega, by simp only [Nat.reducePow, Nat.reduceAdd]; omega⟩
          · exact ⟨13, by omega, by omega, by simp only [Nat.reducePow, Nat.reduceAdd]; omega, by simp only [Nat.reducePow, Nat.reduceAdd]; omega⟩
        · rw [if_neg (show ¬ ((((((x).toUInt32 >>> ((8 : Int32) &&& 31).toUInt32).toInt32)).toUInt32 >>> ((4 : Int32) &&& 31).toUInt32).toInt32) < (4 : Int32) by rw [Int32.lt_iff_toInt_lt]; exact c3)]
          have y3 := s2 ((((((x).toUInt32 >>> ((8 : Int32) &&& 31).toUInt32).toInt32)).toUInt32 >>> ((4 : Int32) &&& 31).toUInt32).toInt32) (by omega)
          have t := s1 (((((((((x).toUInt32 >>> ((8 : Int32) &&& 31).toUInt32).toInt32)).toUInt32 >>> ((4 : Int32) &&& 31).toUInt32).toInt32)).toUInt32 >>> ((2 : Int32) &&& 31).toUInt32).toInt32) (by omega)
          have d := c_isub (17 : Int32) ((((((((((((x).toUInt32 >>> ((8 : Int32) &&& 31).toUInt32).toInt32)).toUInt32 >>> ((4 : Int32) &&& 31).toUInt32).toInt32)).toUInt32 >>> ((2 : Int32) &&& 31).toUInt32).toInt32)).toUInt32 >>> ((1 : Int32) &&& 31).toUInt32).toInt32)
          have e : (17 : Int32).toInt = 17 := by decide
          have q := rng32 ((17 : Int32) - ((((((((((((x).toUInt32 >>> ((8 : Int32) &&& 31).toUInt32).toInt32)).toUInt32 >>> ((4 : Int32) &&& 31).toUInt32).toInt32)).toUInt32 >>> ((2 : Int32) &&& 31).toUInt32).toInt32)).toUInt32 >>> ((1 : Int32) &&& 31).toUInt32).toInt32))
          by_cases hz : ((((((((((x).toUInt32 >>> ((8 : Int32) &&& 31).toUInt32).toInt32)).toUInt32 >>> ((4 : Int32) &&& 31).toUInt32).toInt32)).toUInt32 >>> ((2 : Int32) &&& 31).toUInt32).toInt32)).toInt < 2
          · exact ⟨14, by omega, by omega, by simp only [Nat.reducePow, Nat.reduceAdd]; omega, by simp only [Nat.reducePow, Nat.reduceAdd]; omega⟩
          · exact ⟨15, by omega, by omega, by simp only [Nat.reducePow, Nat.reduceAdd]; omega, by simp only [Nat.reducePow, Nat.reduceAdd]; omega⟩
  · rw [if_neg (show ¬ x < (65536 : Int32) by rw [Int32.lt_iff_toInt_lt]; exact c0)]
    have y0 := s16 x (by omega)
    by_cases c1 : ((((x).toUInt32 >>> ((16 : Int32) &&& 31).toUInt32).toInt32)).toInt < 256
    · rw [if_pos (show (((x).toUInt32 >>> ((16 : Int32) &&& 31).toUInt32).toInt32) < (256 : Int32) by rw [Int32.lt_iff_toInt_lt]; exact c1)]
      by_cases c2 : ((((x).toUInt32 >>> ((16 : Int32) &&& 31).toUInt32).toInt32)).toInt < 16
      · rw [if_pos (show (((x).toUInt32 >>> ((16 : Int32) &&& 31).toUInt32).toInt32) < (16 : Int32) by rw [Int32.lt_iff_toInt_lt]; exact c2)]
        by_cases c3 : ((((x).toUInt32 >>> ((16 : Int32) &&& 31).toUInt32).toInt32)).toInt < 4
        · rw [if_pos (show (((x).toUInt32 >>> ((16 : Int32) &&& 31).toUInt32).toInt32) < (4 : Int32) by rw [Int32.lt_iff_toInt_lt]; exact c3)]
          have t := s1 (((x).toUInt32 >>> ((16 : Int32) &&& 31).toUInt32).toInt32) (by omega)
          have d := c_isub (15 : Int32) ((((((x).toUInt32 >>> ((16 : Int32) &&& 31).toUInt32).toInt32)).toUInt32 >>> ((1 : Int32) &&& 31).toUInt32).toInt32)
          have e : (15 : Int32).toInt = 15 := by decide
          have q := rng32 ((15 : Int32) - ((((((x).toUInt32 >>> ((16 : Int32) &&& 31).toUInt32).toInt32)).toUInt32 >>> ((1 : Int32) &&& 31).toUInt32).toInt32))
          by_cases hz : ((((x).toUInt32 >>> ((16 : Int32) &&& 31).toUInt32).toInt32)).toInt < 2
          · exact ⟨16, by omega, by omega, by simp only [Nat.reducePow, Nat.reduceAdd]; omega, by simp only [Nat.reducePow, Nat.reduceAdd]; omega⟩
          · exact ⟨17, by omega, by omega, by simp only [Nat.reducePow, Nat.reduceAdd]; omega, by simp only [Nat.reducePow, Nat.reduceAdd]; omega⟩
        · rw [if_neg (show ¬ (((x).toUInt32 >>> ((16 : Int32) &&& 31).toUInt32).toInt32) < (4 : Int32) by rw [Int32.lt_iff_toInt_lt]; exact c3)]
          have y3 := s2 (((x).toUInt32 >>> ((16 : Int32) &&& 31).toUInt32).toInt32) (by omega)
          have t := s1 ((((((x).toUInt32 >>> ((16 : Int32) &&& 31).toUInt32).toInt32)).toUInt32 >>> ((2 : Int32) &&& 31).toUInt32).toInt32) (by omega)
          have d := c_isub (13 : Int32) (((((((((x).toUInt32 >>> ((16 : Int32) &&& 31).toUInt32).toInt32)).toUInt32 >>> ((2 : Int32) &&& 31).toUInt32).toInt32)).toUInt32 >>> ((1 : Int32) &&& 31).toUInt32).toInt32)
          have e : (13 : Int32).toInt = 13 := by decide
          have q := rng32 ((13 : Int32) - (((((((((x).toUInt32 >>> ((16 : Int32) &&& 31).toUInt32).toInt32)).toUInt32 >>> ((2 : Int32) &&& 31).toUInt32).toInt32)).toUInt32 >>> ((1 : Int32) &&& 31).toUInt32).toInt32))
          by_cases hz : (((((((x).toUInt32 >>> ((16 : Int32) &&& 31).toUInt32).toInt32)).toUInt32 >>> ((2 : Int32) &&& 31).toUInt32).toInt32)).toInt < 2
          · exact ⟨18, by omega, by omega, by simp only [Nat.reducePow, Nat.reduceAdd]; omega, by simp only [Nat.reducePow, Nat.reduceAdd]; omega⟩
          · exact ⟨19, by omega, by omega, by simp only [Nat.reducePow, Nat.reduceAdd]; omega, by simp only [Nat.reducePow, Nat.reduceAdd]; omega⟩
      · rw [if_neg (show ¬ (((x).toUInt32 >>> ((16 : Int32) &&& 31).toUInt32).toInt32) < (16 : Int32) by rw [Int32.lt_iff_toInt_lt]; exact c2)]
        have y2 := s4 (((x).toUInt32 >>> ((16 : Int32) &&& 31).toUInt32).toInt32) (by omega)
        by_cases c3 : (((((((x).toUInt32 >>> ((16 : Int32) &&& 31).toUInt32).toInt32)).toUInt32 >>> ((4 : Int32) &&& 31).toUInt32).toInt32)).toInt < 4
        · rw [if_pos (show ((((((x).toUInt32 >>> ((16 : Int32) &&& 31).toUInt32).toInt32)).toUInt32 >>> ((4 : Int32) &&& 31).toUInt32).toInt32) < (4 : Int32) by rw [Int32.lt_iff_toInt_lt]; exact c3)]
          have t := s1 ((((((x).toUInt32 >>> ((16 : Int32) &&& 31).toUInt32).toInt32)).toUInt32 >>> ((4 : Int32) &&& 31).toUInt32).toInt32) (by omega)
          have d := c_isub (11 : Int32) (((((((((x).toUInt32 >>> ((16 : Int32) &&& 31).toUInt32).toInt32)).toUInt32 >>> ((4 : Int32) &&& 31).toUInt32).toInt32)).toUInt32 >>> ((1 : Int32) &&& 31).toUInt32).toInt32)
          have e : (11 : Int32).toInt = 11 := by decide
          have q := rng32 ((11 : Int32) - (((((((((x).toUInt32 >>> ((16 : Int32) &&& 31).toUInt32).toInt32)).toUInt32 >>> ((4 : Int32) &&& 31).toUInt32).toInt32)).toUInt32 >>> ((1 : Int32) &&& 31).toUInt32).toInt32))
          by_cases hz : (((((((x).toUInt32 >>> ((16 : Int32) &&& 31).toUInt32).toInt32)).toUInt32 >>> ((4 : Int32) &&& 31).toUInt32).toInt32)).toInt < 2
          · exact ⟨20, by omega, by omega, by simp only [Nat.reducePow, Nat.reduceAdd]; omega, by simp only [Nat.reducePow, Nat.reduceAdd]; omega⟩
          · exact ⟨21, by omega, by omega, by simp only [Nat.reducePow, Nat.reduceAdd]; omega, by simp only [Nat.reducePow, Nat.reduceAdd]; omega⟩
        · rw [if_neg (show ¬ ((((((x).toUInt32 >>> ((16 : Int32) &&& 31).toUInt32).toInt32)).toUInt32 >>> ((4 : Int32) &&& 31).toUInt32).toInt32) < (4 : Int32) by rw [Int32.lt_iff_toInt_lt]; exact c3)]
          have y3 := s2 ((((((x).toUInt32 >>> ((16 : Int32) &&& 31).toUInt32).toInt32)).toUInt32 >>> ((4 : Int32) &&& 31).toUInt32).toInt32) (by omega)
          have t := s1 (((((((((x).toUInt32 >>> ((16 : Int32) &&& 31).toUInt32).toInt32)).toUInt32 >>> ((4 : Int32) &&& 31).toUInt32).toInt32)).toUInt32 >>> ((2 : Int32) &&& 31).toUInt32).toInt32) (by omega)
          have d := c_isub (9 : Int32) ((((((((((((x).toUInt32 >>> ((16 : Int32) &&& 31).toUInt32).toInt32)).toUInt32 >>> ((4 : Int32) &&& 31).toUInt32).toInt32)).toUInt32 >>> ((2 : Int32) &&& 31).toUInt32).toInt32)).toUInt32 >>> ((1 : Int32) &&& 31).toUInt32).toInt32)
          have e : (9 : Int32).toInt = 9 := by decide
          have q := rng32 ((9 : Int32) - ((((((((((((x).toUInt32 >>> ((16 : Int32) &&& 31).toUInt32).toInt32)).toUInt32 >>> ((4 : Int32) &&& 31).toUInt32).toInt32)).toUInt32 >>> ((2 : Int32) &&& 31).toUInt32).toInt32)).toUInt32 >>> ((1 : Int32) &&& 31).toUInt32).toInt32))
          by_cases hz : ((((((((((x).toUInt32 >>> ((16 : Int32) &&& 31).toUInt32).toInt32)).toUInt32 >>> ((4 : Int32) &&& 31).toUInt32).toInt32)).toUInt32 >>> ((2 : Int32) &&& 31).toUInt32).toInt32)).toInt < 2
          · exact ⟨22, by omega, by omega, by simp only [Nat.reducePow, Nat.reduceAdd]; omega, by simp only [Nat.reducePow, Nat.reduceAdd]; omega⟩
          · exact ⟨23, by omega, by omega, by simp only [Nat.reducePow, Nat.reduceAdd]; omega, by simp only [Nat.reducePow, Nat.reduceAdd]; omega⟩
    · rw [if_neg (show ¬ (((x).toUInt32 >>> ((16 : Int32) &&& 31).toUInt32).toInt32) < (256 : Int32) by rw [Int32.lt_iff_toInt_lt]; exact c1)]
      have y1 := s8 (((x).toUInt32 >>> ((16 : Int32) &&& 31).toUInt32).toInt32) (by omega)
      by_cases c2 : (((((((x).toUInt32 >>> ((16 : Int32) &&& 31).toUInt32).toInt32)).toUInt32 >>> ((8 : Int32) &&& 31).toUInt32).toInt32)).toInt < 16
      · rw [if_pos (show ((((((x).toUInt32 >>> ((16 : Int32) &&& 31).toUInt32).toInt32)).toUInt32 >>> ((8 : Int32) &&& 31).toUInt32).toInt32) < (16 : Int32) by rw [Int32.lt_iff_toInt_lt]; exact c2)]
        by_cases c3 : (((((((x).toUInt32 >>> ((16 : Int32) &&& 31).toUInt32).toInt32)).toUInt32 >>> ((8 : Int32) &&& 31).toUInt32).toInt32)).toInt < 4
        · rw [if_pos (show ((((((x).toUInt32 >>> ((16 : Int32) &&& 31).toUInt32).toInt32)).toUInt32 >>> ((8 : Int32) &&& 31).toUInt32).toInt32) < (4 : Int32) by rw [Int32.lt_iff_toInt_lt]; exact c3)]
          have t := s1 ((((((x).toUInt32 >>> ((16 : Int32) &&& 31).toUInt32).toInt32)).toUInt32 >>> ((8 : Int32) &&& 31).toUInt32).toInt32) (by omega)
          have d := c_isub (7 : Int32) (((((((((x).toUInt32 >>> ((16 : Int32) &&& 31).toUInt32).toInt32)).toUInt32 >>> ((8 : Int32) &&& 31).toUInt32).toInt32)).toUInt32 >>> ((1 : Int32) &&& 31).toUInt32).toInt32)
          have e : (7 : Int32).toInt = 7 := by decide
          have q := rng32 ((7 : Int32) - (((((((((x).toUInt32 >>> ((16 : Int32) &&& 31).toUInt32).toInt32)).toUInt32 >>> ((8 : Int32) &&& 31).toUInt32).toInt32)).toUInt32 >>> ((1 : Int32) &&& 31).toUInt32).toInt32))
          by_cases hz : (((((((x).toUInt32 >>> ((16 : Int32) &&& 31).toUInt32).toInt32)).toUInt32 >>> ((8 : Int32) &&& 31).toUInt32).toInt32)).toInt < 2
          · exact ⟨24, by omega, by omega, by simp only [Nat.reducePow, Nat.reduceAdd]; omega, by simp only [Nat.reducePow, Nat.reduceAdd]; omega⟩
          · exact ⟨25, by omega, by omega, by simp only [Nat.reducePow, Nat.reduceAdd]; omega, by simp only [Nat.reducePow, Nat.reduceAdd]; omega⟩
        · rw [if_neg (show ¬ ((((((x).toUInt32 >>> ((16 : Int32) &&& 31).toUInt32).toInt32)).toUInt32 >>> ((8 : Int32) &&& 31).toUInt32).toInt32) < (4 : Int32) by rw [Int32.lt_iff_toInt_lt]; exact c3)]
          have y3 := s2 ((((((x).toUInt32 >>> ((16 : Int32) &&& 31).toUInt32).toInt32)).toUInt32 >>> ((8 : Int32) &&& 31).toUInt32).toInt32) (by omega)
          have t := s1 (((((((((x).toUInt32 >>> ((16 : Int32) &&& 31).toUInt32).toInt32)).toUInt32 >>> ((8 : Int32) &&& 31).toUInt32).toInt32)).toUInt32 >>> ((2 : Int32) &&& 31).toUInt32).toInt32) (by omega)
          have d := c_isub (5 : Int32) ((((((((((((x).toUInt32 >>> ((16 : Int32) &&& 31).toUInt32).toInt32)).toUInt32 >>> ((8 : Int32) &&& 31).toUInt32).toInt32)).toUInt32 >>> ((2 : Int32) &&& 31).toUInt32).toInt32)).toUInt32 >>> ((1 : Int32) &&& 31).toUInt32).toInt32)
          have e : (5 : Int32).toInt = 5 := by decide
          have q := rng32 ((5 : Int32) - ((((((((((((x).toUInt32 >>> ((16 : Int32) &&& 31).toUInt32).toInt32)).toUInt32 >>> ((8 : Int32) &&& 31).toUInt32).toInt32)).toUInt32 >>> ((2 : Int32) &&& 31).toUInt32).toInt32)).toUInt32 >>> ((1 : Int32) &&& 31).toUInt32).toInt32))
          by_cases hz : ((((((((((x).toUInt32 >>> ((16 : Int32) &&& 31).toUInt32).toInt32)).toUInt32 >>> ((8 : Int32) &&& 31).toUInt32).toInt32)).toUInt32 >>> ((2 : Int32) &&& 31).toUInt32).toInt32)).toInt < 2
          · exact ⟨26, by omega, by omega, by simp only [Nat.reducePow, Nat.reduceAdd]; omega, by simp only [Nat.reducePow, Nat.reduceAdd]; omega⟩
          · exact ⟨27, by omega, by omega, by simp only [Nat.reducePow, Nat.reduceAdd]; omega, by simp only [Nat.reducePow, Nat.reduceAdd]; omega⟩
      · rw [if_neg (show ¬ ((((((x).toUInt32 >>> ((16 : Int32) &&& 31).toUInt32).toInt32)).toUInt32 >>> ((8 : Int32) &&& 31).toUInt32).toInt32) < (16 : Int32) by rw [Int32.lt_iff_toInt_lt]; exact c2)]
        have y2 := s4 ((((((x).toUInt32 >>> ((16 : Int32) &&& 31).toUInt32).toInt32)).toUInt32 >>> ((8 : Int32) &&& 31).toUInt32).toInt32) (by omega)
        by_cases c3 : ((((((((((x).toUInt32 >>> ((16 : Int32) &&& 31).toUInt32).toInt32)).toUInt32 >>> ((8 : Int32) &&& 31).toUInt32).toInt32)).toUInt32 >>> ((4 : Int32) &&& 31).toUInt32).toInt32)).toInt < 4
        · rw [if_pos (show (((((((((x).toUInt32 >>> ((16 : Int32) &&& 31).toUInt32).toInt32)).toUInt32 >>> ((8 : Int32) &&& 31).toUInt32).toInt32)).toUInt32 >>> ((4 : Int32) &&& 31).toUInt32).toInt32) < (4 : Int32) by rw [Int32.lt_iff_toInt_lt]; exact c3)]
          have t := s1 (((((((((x).toUInt32 >>> ((16 : Int32) &&& 31).toUInt32).toInt32)).toUInt32 >>> ((8 : Int32) &&& 31).toUInt32).toInt32)).toUInt32 >>> ((4 : Int32) &&& 31).toUInt32).toInt32) (by omega)
          have d := c_isub (3 : Int32) ((((((((((((x).toUInt32 >>> ((16 : Int32) &&& 31).toUInt32).toInt32)).toUInt32 >>> ((8 : Int32) &&& 31).toUInt32).toInt32)).toUInt32 >>> ((4 : Int32) &&& 31).toUInt32).toInt32)).toUInt32 >>> ((1 : Int32) &&& 31).toUInt32).toInt32)
          have e : (3 : Int32).toInt = 3 := by decide
          have q := rng32 ((3 : Int32) - ((((((((((((x).toUInt32 >>> ((16 : Int32) &&& 31).toUInt32).toInt32)).toUInt32 >>> ((8 : Int32) &&& 31).toUInt32).toInt32)).toUInt32 >>> ((4 : Int32) &&& 31).toUInt32).toInt32)).toUInt32 >>> ((1 : Int32) &&& 31).toUInt32).toInt32))
          by_cases hz : ((((((((((x).toUInt32 >>> ((16 : Int32) &&& 31).toUInt32).toInt32)).toUInt32 >>> ((8 : Int32) &&& 31).toUInt32).toInt32)).toUInt32 >>> ((4 : Int32) &&& 31).toUInt32).toInt32)).toInt < 2
          · exact ⟨28, by omega, by omega, by simp only [Nat.reducePow, Nat.reduceAdd]; omega, by simp only [Nat.reducePow, Nat.reduceAdd]; omega⟩
          · exact ⟨29, by omega, by omega, by simp only [Nat.reducePow, Nat.reduceAdd]; omega, by simp only [Nat.reducePow, Nat.reduceAdd]; omega⟩
        · rw [if_neg (show ¬ (((((((((x).toUInt32 >>> ((16 : Int32) &&& 31).toUInt32).toInt32)).toUInt32 >>> ((8 : Int32) &&& 31).toUInt32).toInt32)).toUInt32 >>> ((4 : Int32) &&& 31).toUInt32).toInt32) < (4 : Int32) by rw [Int32.lt_iff_toInt_lt]; exact c3)]
          have y3 := s2 (((((((((x).toUInt32 >>> ((16 : Int32) &&& 31).toUInt32).toInt32)).toUInt32 >>> ((8 : Int32) &&& 31).toUInt32).toInt32)).toUInt32 >>> ((4 : Int32) &&& 31).toUInt32).toInt32) (by omega)
          have t := s1 ((((((((((((x).toUInt32 >>> ((16 : Int32) &&& 31).toUInt32).toInt32)).toUInt32 >>> ((8 : Int32) &&& 31).toUInt32).toInt32)).toUInt32 >>> ((4 : Int32) &&& 31).toUInt32).toInt32)).toUInt32 >>> ((2 : Int32) &&& 31).toUInt32).toInt32) (by omega)
          have d := c_isub (1 : Int32) (((((((((((((((x).toUInt32 >>> ((16 : Int32) &&& 31).toUInt32).toInt32)).toUInt32 >>> ((8 : Int32) &&& 31).toUInt32).toInt32)).toUInt32 >>> ((4 : Int32) &&& 31).toUInt32).toInt32)).toUInt32 >>> ((2 : Int32) &&& 31).toUInt32).toInt32)).toUInt32 >>> ((1 : Int32) &&& 31).toUInt32).toInt32)
          have e : (1 : Int32).toInt = 1 := by decide
          have q := rng32 ((1 : Int32) - (((((((((((((((x).toUInt32 >>> ((16 : Int32) &&& 31).toUInt32).toInt32)).toUInt32 >>> ((8 : Int32) &&& 31).toUInt32).toInt32)).toUInt32 >>> ((4 : Int32) &&& 31).toUInt32).toInt32)).toUInt32 >>> ((2 : Int32) &&& 31).toUInt32).toInt32)).toUInt32 >>> ((1 : Int32) &&& 31).toUInt32).toInt32))
          by_cases hz : (((((((((((((x).toUInt32 >>> ((16 : Int32) &&& 31).toUInt32).toInt32)).toUInt32 >>> ((8 : Int32) &&& 31).toUInt32).toInt32)).toUInt32 >>> ((4 : Int32) &&& 31).toUInt32).toInt32)).toUInt32 >>> ((2 : Int32) &&& 31).toUInt32).toInt32)).toInt < 2
          · exact ⟨30, by omega, by omega, by simp only [Nat.reducePow, Nat.reduceAdd]; omega, by simp only [Nat.reducePow, Nat.reduceAdd]; omega⟩
          · exact ⟨31, by omega, by omega, by simp only [Nat.reducePow, Nat.reduceAdd]; omega, by simp only [Nat.reducePow, Nat.reduceAdd]; omega⟩
theorem own_lnz (x : Int64) (h : 0 < x.toInt) (h57 : x.toInt < 144115188075855872) : ∃ k : Nat, k < 57 ∧ (f_lnz x).toInt = 63 - (k : Int) ∧ ((2 ^ k : Nat) : Int) ≤ x.toInt ∧ x.toInt < ((2 ^ (k + 1) : Nat) : Int) := by
  have key : ∃ k : Nat, (f_lnz x).toInt = 63 - (k : Int) ∧ ((2 ^ k : Nat) : Int) ≤ x.toInt ∧ x.toInt < ((2 ^ (k + 1) : Nat) : Int) := by
    have hs := c_lushr x 32 32 (by decide) (by decide)
    have hl := c_l2i ((x.toUInt64 >>> ((32 : Int32) &&& 0x3f).toInt64.toUInt64).toInt64)
    have rl := rng32 ((x.toUInt64 >>> ((32 : Int32) &&& 0x3f).toInt64.toUInt64).toInt64).toInt32
    have hq : (((x.toUInt64 >>> ((32 : Int32) &&& 0x3f).toInt64.toUInt64).toInt64).toInt32).toInt = x.toInt / 4294967296 := by omega
    have e0 : (0 : Int32).toInt = 0 := by decide
    unfold f_lnz
    by_cases hz : x.toInt / 4294967296 = 0
    · rw [if_pos (Int32.toInt_inj.mp (by rw [hq, hz, e0]))]
      have h2 := c_l2i x
      have r2 := rng32 x.toInt32
      have a1 := c_iadd 32 (f_inz x.toInt32)
      have a2 := rng32 (32 + f_inz x.toInt32)
      have e32 : (32 : Int32).toInt = 32 := by decide
      by_cases hn : 0 < x.toInt32.toInt
      · obtain ⟨k, k1, k2, k3, k4⟩ := own_inz _ hn
        refine ⟨k, by omega, ?_, ?_⟩ <;> omega
      · have hneg : x.toInt32.toInt < 0 := by omega
        have f0 : f_inz x.toInt32 = 0 := by
          rw [f_inz, if_neg (by rw [Int32.lt_iff_toInt_lt, e0]; omega), if_neg (fun q => by rw [q, e0] at hneg; omega)]
        rw [f0] at a1 a2
        refine ⟨31, ?_, ?_, ?_⟩
        · rw [f0]
          omega
        · simp only [Nat.reducePow]
          omega
        · simp only [Nat.reducePow, Nat.reduceAdd]
          omega
    · rw [if_neg (fun q => hz (by rw [← hq, q, e0]))]
      obtain ⟨k, k1, k2, k3, k4⟩ := own_inz _ (show 0 < _ by rw [hq]; omega)
      rw [hq] at k3 k4
      refine ⟨k + 32, by omega, ?_, ?_⟩
      · rw [Nat.pow_add]
        have : ((2 ^ k * 2 ^ 32 : Nat) : Int) = ((2 ^ k : Nat) : Int) * 4294967296 := by rw [Int.natCast_mul]; rfl
        omega
      · rw [show k + 32 + 1 = (k + 1) + 32 by omega, Nat.pow_add]
        have : ((2 ^ (k + 1) * 2 ^ 32 : Nat) : Int) = ((2 ^ (k + 1) : Nat) : Int) * 4294967296 := by rw [Int.natCast_mul]; rfl
        omega
  obtain ⟨k, k1, k2, k3⟩ := key
  refine ⟨k, ?_, k1, k2, k3⟩
  by_cases hk : k < 57
  · exact hk
  · exfalso
    have := Nat.pow_le_pow_right (n := 2) (by decide) (show 57 ≤ k by omega)
    have e : (2 : Nat) ^ 57 = 144115188075855872 := by decide
    omega
def OB (bb : Int32) (x : Int64) : Prop := (1 ≤ bb.toInt ∧ bb.toInt ≤ 57) ∧ ∃ k : Nat, bb.toInt = (k : Int) + 1 ∧ ((2 ^ k : Nat) : Int) ≤ x.toInt ∧ x.toInt < ((2 ^ (k + 1) : Nat) : Int)
theorem own_bbx (x : Int64) (h : 0 < x.toInt) (h57 : x.toInt < 144115188075855872) : OB ((64 : Int32) - (f_lnz x)) x := by
  obtain ⟨k, k0, k1, k2, k3⟩ := own_lnz x h h57
  have d := c_isub 64 (f_lnz x)
  have r := rng32 (64 - f_lnz x)
  have e : (64 : Int32).toInt = 64 := by decide
  refine ⟨by omega, k, by omega, k2, k3⟩
theorem own_mul {a b : Int64} (h0 : 0 ≤ a.toInt) (h1 : 0 ≤ b.toInt) (h : a.toInt * b.toInt < 9223372036854775808) : (a * b).toInt = a.toInt * b.toInt := by
  have c := c_lmul a b
  have r := rng64 (a * b)
  have := Int.mul_nonneg h0 h1
  omega
theorem own_step {mm : Int64} (hm : 2 ≤ mm.toInt ∧ mm.toInt < 2147483648) {y : Int64} (hy : 1 ≤ y.toInt) (h : ¬ ((144115188075855872 : Int64) / mm) < y) : (y * mm).toInt = y.toInt * mm.toInt ∧ y.toInt * mm.toInt ≤ 144115188075855872 ∧ 2 ≤ y.toInt * mm.toInt := by
  rw [Int64.lt_iff_toInt_lt, own_lim hm] at h
  have h1 : y.toInt ≤ 144115188075855872 / mm.toInt := by omega
  have h2 : y.toInt * mm.toInt ≤ 144115188075855872 := (Int.le_ediv_iff_mul_le (by omega)).mp h1
  have h3 : 1 * mm.toInt ≤ y.toInt * mm.toInt := Int.mul_le_mul_of_nonneg_right hy (by omega)
  exact ⟨own_mul (by omega) (by omega) (by omega), h2, by omega⟩
theorem own_bb1 {mm : Int64} (hm : 2 ≤ mm.toInt ∧ mm.toInt < 2147483648) : OB ((64 : Int32) - (f_lnz (((1 : Int64) * ((mm).toInt32).toInt64) - (1 : Int64)))) (mm - (1 : Int64)) := by
  rw [own_bk hm, Int64.one_mul]
  have e1 : (1 : Int64).toInt = 1 := by decide
  have b : 2 ≤ (mm).toInt ∧ (mm).toInt ≤ 144115188075855872 := by omega
  have c := c_lsub mm 1
  have r := rng64 (mm - 1)
  exact own_bbx _ (by omega) (by omega)
theorem own_bb2 {mm : Int64} (hm : 2 ≤ mm.toInt ∧ mm.toInt < 2147483648) (h1 : ¬ ((144115188075855872 : Int64) / mm) < mm) : OB ((64 : Int32) - (f_lnz ((((1 : Int64) * ((mm).toInt32).toInt64) * ((mm).toInt32).toInt64) - (1 : Int64)))) ((mm * mm) - (1 : Int64)) := by
  rw [own_bk hm, Int64.one_mul]
  have e1 : (1 : Int64).toInt = 1 := by decide
  have s1 : 1 ≤ (mm).toInt := by omega
  have q1 := own_step hm (y := mm) (by omega) h1
  have b : 2 ≤ ((mm * mm)).toInt ∧ ((mm * mm)).toInt ≤ 144115188075855872 := by omega
  have c := c_lsub (mm * mm) 1
  have r := rng64 ((mm * mm) - 1)
  exact own_bbx _ (by omega) (by omega)
theorem own_bb3 {mm : Int64} (hm : 2 ≤ mm.toInt ∧ mm.toInt < 2147483648) (h1 : ¬ ((144115188075855872 : Int64) / mm) < mm) (h2 : ¬ ((144115188075855872 : Int64) / mm) < (mm * mm)) : OB ((64 : Int32) - (f_lnz (((((1 : Int64) * ((mm).toInt32).toInt64) * ((mm).toInt32).toInt64) * ((mm).toInt32).toInt64) - (1 : Int64)))) (((mm * mm) * mm) - (1 : Int64)) := by
  rw [own_bk hm, Int64.one_mul]
  have e1 : (1 : Int64).toInt = 1 := by decide
  have s1 : 1 ≤ (mm).toInt := by omega
  have q1 := own_step hm (y := mm) (by omega) h1
  have q2 := own_step hm (y := (mm * mm)) (by omega) h2
  have b : 2 ≤ (((mm * mm) * mm)).toInt ∧ (((mm * mm) * mm)).toInt ≤ 144115188075855872 := by omega
  have c := c_lsub ((mm * mm) * mm) 1
  have r := rng64 (((mm * mm) * mm) - 1)
  exact own_bbx _ (by omega) (by omega)
theorem own_bb4 {mm : Int64} (hm : 2 ≤ mm.toInt ∧ mm.toInt < 2147483648) (h1 : ¬ ((144115188075855872 : Int64) / mm) < mm) (h2 : ¬ ((144115188075855872 : Int64) / mm) < (mm * mm)) (h3 : ¬ ((144115188075855872 : Int64) / mm) < ((mm * mm) * mm)) : OB ((64 : Int32) - (f_lnz ((((((1 : Int64) * ((mm).toInt32).toInt64) * ((mm).toInt32).toInt64) * ((mm).toInt32).toInt64) * ((mm).toInt32).toInt64) - (1 : Int64)))) ((((mm * mm) * mm) * mm) - (1 : Int64)) := by
  rw [own_bk hm, Int64.one_mul]
  have e1 : (1 : Int64).toInt = 1 := by decide
  have s1 : 1 ≤ (mm).toInt := by omega
  have q1 := own_step hm (y := mm) (by omega) h1
  have q2 := own_step hm (y := (mm * mm)) (by omega) h2
  have q3 := own_step hm (y := ((mm * mm) * mm)) (by omega) h3
  have b : 2 ≤ ((((mm * mm) * mm) * mm)).toInt ∧ ((((mm * mm) * mm) * mm)).toInt ≤ 144115188075855872 := by omega
  have c := c_lsub (((mm * mm) * mm) * mm) 1
  have r := rng64 ((((mm * mm) * mm) * mm) - 1)
  exact own_bbx _ (by omega) (by omega)
theorem own_bn {bb : Int32} (h : 1 ≤ bb.toInt ∧ bb.toInt ≤ 57) : ∃ k : Fin 58, bb = Int32.ofNat k.val ∧ 1 ≤ k.val ∧ bb.toInt = k.val := by
  refine ⟨⟨bb.toInt.toNat, by omega⟩, ?_, by show 1 ≤ bb.toInt.toNat; omega, by show bb.toInt = ((bb.toInt.toNat : Nat) : Int); omega⟩
  exact own_of bb (by omega)
theorem own_b8f : ∀ k : Fin 58, ((((8 : Int64) * (Int32.ofNat k.val).toInt64) + (7 : Int64)) / (8 : Int64)) = (Int32.ofNat k.val).toInt64 := by decide +kernel
theorem own_b8 {bb : Int32} (h : 1 ≤ bb.toInt ∧ bb.toInt ≤ 57) : ((((8 : Int64) * (bb).toInt64) + (7 : Int64)) / (8 : Int64)) = (bb).toInt64 := by
  obtain ⟨k, rfl, -, -⟩ := own_bn h
  exact own_b8f k
theorem own_l1 {bb : Int32} (h : 1 ≤ bb.toInt ∧ bb.toInt ≤ 57) : ¬ (bb).toInt64 < (1 : Int64) := by
  have e1 : (1 : Int64).toInt = 1 := by decide
  rw [Int64.lt_iff_toInt_lt, c_i2l]
  omega
theorem own_l2 {bb : Int32} (h : 1 ≤ bb.toInt ∧ bb.toInt ≤ 57) : ¬ (57 : Int64) < (bb).toInt64 := by
  have e1 : (57 : Int64).toInt = 57 := by decide
  rw [Int64.lt_iff_toInt_lt, c_i2l]
  omega
theorem own_s1f : ∀ k : Fin 58, ((1 : Int64) <<< (((Int32.ofNat k.val).toInt64).toInt32 &&& 0x3f).toInt64).toInt = ((2 ^ k.val : Nat) : Int) := by decide +kernel
theorem own_s2f : ∀ k : Fin 57, ((1 : Int64) <<< ((((Int32.ofNat (k.val + 1)).toInt64) - (1 : Int64)).toInt32 &&& 0x3f).toInt64).toInt = ((2 ^ k.val : Nat) : Int) := by decide +kernel
theorem own_t1 {bb : Int32} {x : Int64} (h : OB bb x) : x < ((1 : Int64) <<< (((bb).toInt64).toInt32 &&& 0x3f).toInt64) := by
  obtain ⟨hb, k, k1, k2, k3⟩ := h
  obtain ⟨j, rfl, -, j2⟩ := own_bn hb
  rw [Int64.lt_iff_toInt_lt, own_s1f j]
  have : j.val = k + 1 := by omega
  rw [this]
  exact k3
theorem own_t2 {bb : Int32} {x : Int64} (h : OB bb x) : ¬ x < ((1 : Int64) <<< ((((bb).toInt64) - (1 : Int64)).toInt32 &&& 0x3f).toInt64) := by
  obtain ⟨hb, k, k1, k2, k3⟩ := h
  obtain ⟨j, rfl, -, j2⟩ := own_bn hb
  have hj : j.val = k + 1 := by omega
  rw [Int64.lt_iff_toInt_lt, hj]
  have q : ((1 : Int64) <<< ((((Int32.ofNat (k + 1)).toInt64) - (1 : Int64)).toInt32 &&& 0x3f).toInt64).toInt = ((2 ^ k : Nat) : Int) := own_s2f ⟨k, by omega⟩
  rw [q]
  omega
theorem own_cl (q2 : Int64) : 0 ≤ (q2 &&& (72057594037927935 : Int64)).toInt ∧ (q2 &&& (72057594037927935 : Int64)).toInt < 72057594037927936 := by
  have h := c_maskL q2 72057594037927935 56 (by decide) (by decide)
  have e : ((2 ^ 56 : Nat) : Int) = 72057594037927936 := by decide
  rw [h, e]
  omega
theorem own_eighth {X : Int64} (h : 0 ≤ X.toInt ∧ X.toInt < 5000000000000000000) : (X - (X / (8 : Int64)) * (8 : Int64)).toInt = X.toInt % 8 ∧ (X / (8 : Int64)).toInt = X.toInt / 8 ∧ ((X + (7 : Int64)) / (8 : Int64)).toInt = (X.toInt + 7) / 8 := by
  have h1 := (c_lrem X 8 8 (by decide)).1 h.1
  have h2 := (c_ldiv X 8 8 (by decide) (by decide)).1 h.1
  have a := c_ladd X 7
  have r := rng64 (X + 7)
  have e7 : (7 : Int64).toInt = 7 := by decide
  have s : (X + 7).toInt = X.toInt + 7 := by omega
  have h3 := (c_ldiv (X + 7) 8 8 (by decide) (by decide)).1 (by omega)
  rw [s] at h3
  exact ⟨h1, h2, h3⟩
theorem own_prod {A : Int64} {bb : Int32} (h : 1 ≤ bb.toInt ∧ bb.toInt ≤ 57) (hA : 0 ≤ A.toInt ∧ A.toInt ≤ 72057594037927936) : 0 ≤ (A * (bb).toInt64).toInt ∧ (A * (bb).toInt64).toInt < 5000000000000000000 := by
  have e := c_i2l bb
  have b1 : A.toInt * bb.toInt64.toInt ≤ 72057594037927936 * 57 := Int.mul_le_mul hA.2 (by omega) (by omega) (by omega)
  have b0 := Int.mul_nonneg hA.1 (show 0 ≤ bb.toInt64.toInt by omega)
  rw [own_mul hA.1 (by omega) (by omega)]
  omega
theorem own_A1 {cc : Int64} (hc : 0 ≤ (cc).toInt ∧ (cc).toInt < 72057594037927936) : (((cc + (1 : Int64)) - (1 : Int64)) / (1 : Int64)).toInt = (cc.toInt + 0) / 1 ∧ (cc / (1 : Int64)).toInt = cc.toInt / 1 ∧ (cc - (cc / (1 : Int64)) * (1 : Int64)).toInt = cc.toInt % 1 := by
  have e1 : (1 : Int64).toInt = 1 := by decide
  have eg : (1 : Int64).toInt = 1 := by decide
  have a := c_ladd cc (1 : Int64)
  have r := rng64 (cc + (1 : Int64))
  have b := c_lsub (cc + (1 : Int64)) 1
  have r2 := rng64 (cc + (1 : Int64) - 1)
  have s : (cc + (1 : Int64) - 1).toInt = cc.toInt + 0 := by omega
  have h3 := (c_ldiv (cc + (1 : Int64) - 1) (1 : Int64) 1 (by decide) (by decide)).1 (by omega)
  rw [s] at h3
  exact ⟨h3, (c_ldiv cc (1 : Int64) 1 (by decide) (by decide)).1 hc.1, (c_lrem cc (1 : Int64) 1 (by decide)).1 hc.1⟩
theorem own_B1t {bb : Int32} {cc : Int64} (hB : 1 ≤ bb.toInt ∧ bb.toInt ≤ 57) (hc : 0 ≤ (cc).toInt ∧ (cc).toInt < 72057594037927936) (h1 : (cc - (cc / (1 : Int64)) * (1 : Int64)) = (0 : Int64)) : ((cc / (1 : Int64)) + (0 : Int64)) = (((cc + (1 : Int64)) - (1 : Int64)) / (1 : Int64)) ∧ 0 ≤ ((cc / (1 : Int64)) + (0 : Int64)).toInt ∧ ((cc / (1 : Int64)) + (0 : Int64)).toInt ≤ 72057594037927936 := by
  obtain ⟨a1, a2, a3⟩ := own_A1 hc
  have e0 : (0 : Int64).toInt = 0 := by decide
  have e1 : (1 : Int64).toInt = 1 := by decide
  rw [← Int64.toInt_inj, a3, e0] at h1
  have a := c_ladd (cc / (1 : Int64)) (0 : Int64)
  have r := rng64 ((cc / (1 : Int64)) + (0 : Int64))
  have s : ((cc / (1 : Int64)) + (0 : Int64)).toInt = cc.toInt / 1 + 0 := by omega
  refine ⟨Int64.toInt_inj.mp (by rw [s, a1]; omega), by omega, by omega⟩
theorem own_f1_tt {bb : Int32} {cc : Int64} (hB : 1 ≤ bb.toInt ∧ bb.toInt ≤ 57) (hc : 0 ≤ (cc).toInt ∧ (cc).toInt < 72057594037927936) (h1 : (cc - (cc / (1 : Int64)) * (1 : Int64)) = (0 : Int64)) (h2 : ((((cc / (1 : Int64)) + (0 : Int64)) * (bb).toInt64) - ((((cc / (1 : Int64)) + (0 : Int64)) * (bb).toInt64) / (8 : Int64)) * (8 : Int64)) = (0 : Int64)) : ((((((cc + (1 : Int64)) - (1 : Int64)) / (1 : Int64)) * (bb).toInt64) + (7 : Int64)) / (8 : Int64)) = (((((cc / (1 : Int64)) + (0 : Int64)) * (bb).toInt64) / (8 : Int64)) + (0 : Int64)) := by
  obtain ⟨b1, b2⟩ := own_B1t hB hc h1
  have p := own_prod hB b2
  rw [← b1]
  generalize (((cc / (1 : Int64)) + (0 : Int64)) * (bb).toInt64) = X at *
  obtain ⟨x1, x2, x3⟩ := own_eighth p
  have e0 : (0 : Int64).toInt = 0 := by decide
  have e1 : (1 : Int64).toInt = 1 := by decide
  rw [← Int64.toInt_inj, x1, e0] at h2
  have a := c_ladd (X / 8) (0 : Int64)
  have r := rng64 (X / 8 + (0 : Int64))
  apply Int64.toInt_inj.mp
  rw [x3]
  omega
theorem own_f1_tf {bb : Int32} {cc : Int64} (hB : 1 ≤ bb.toInt ∧ bb.toInt ≤ 57) (hc : 0 ≤ (cc).toInt ∧ (cc).toInt < 72057594037927936) (h1 : (cc - (cc / (1 : Int64)) * (1 : Int64)) = (0 : Int64)) (h2 : ¬ ((((cc / (1 : Int64)) + (0 : Int64)) * (bb).toInt64) - ((((cc / (1 : Int64)) + (0 : Int64)) * (bb).toInt64) / (8 : Int64)) * (8 : Int64)) = (0 : Int64)) : ((((((cc + (1 : Int64)) - (1 : Int64)) / (1 : Int64)) * (bb).toInt64) + (7 : Int64)) / (8 : Int64)) = (((((cc / (1 : Int64)) + (0 : Int64)) * (bb).toInt64) / (8 : Int64)) + (1 : Int64)) := by
  obtain ⟨b1, b2⟩ := own_B1t hB hc h1
  have p := own_prod hB b2
  rw [← b1]
  generalize (((cc / (1 : Int64)) + (0 : Int64)) * (bb).toInt64) = X at *
  obtain ⟨x1, x2, x3⟩ := own_eighth p
  have e0 : (0 : Int64).toInt = 0 := by decide
  have e1 : (1 : Int64).toInt = 1 := by decide
  rw [← Int64.toInt_inj, x1, e0] at h2
  have a := c_ladd (X / 8) (1 : Int64)
  have r := rng64 (X / 8 + (1 : Int64))
  apply Int64.toInt_inj.mp
  rw [x3]
  omega
theorem own_B1f {bb : Int32} {cc : Int64} (hB : 1 ≤ bb.toInt ∧ bb.toInt ≤ 57) (hc : 0 ≤ (cc).toInt ∧ (cc).toInt < 72057594037927936) (h1 : ¬ (cc - (cc / (1 : Int64)) * (1 : Int64)) = (0 : Int64)) : ((cc / (1 : Int64)) + (1 : Int64)) = (((cc + (1 : Int64)) - (1 : Int64)) / (1 : Int64)) ∧ 0 ≤ ((cc / (1 : Int64)) + (1 : Int64)).toInt ∧ ((cc / (1 : Int64)) + (1 : Int64)).toInt ≤ 72057594037927936 := by
  obtain ⟨a1, a2, a3⟩ := own_A1 hc
  have e0 : (0 : Int64).toInt = 0 := by decide
  have e1 : (1 : Int64).toInt = 1 := by decide
  rw [← Int64.toInt_inj, a3, e0] at h1
  have a := c_ladd (cc / (1 : Int64)) (1 : Int64)
  have r := rng64 ((cc / (1 : Int64)) + (1 : Int64))
  have s : ((cc / (1 : Int64)) + (1 : Int64)).toInt = cc.toInt / 1 + 1 := by omega
  refine ⟨Int64.toInt_inj.mp (by rw [s, a1]; omega), by omega, by omega⟩
theorem own_f1_ft {bb : Int32} {cc : Int64} (hB : 1 ≤ bb.toInt ∧ bb.toInt ≤ 57) (hc : 0 ≤ (cc).toInt ∧ (cc).toInt < 72057594037927936) (h1 : ¬ (cc - (cc / (1 : Int64)) * (1 : Int64)) = (0 : Int64)) (h2 : ((((cc / (1 : Int64)) + (1 : Int64)) * (bb).toInt64) - ((((cc / (1 : Int64)) + (1 : Int64)) * (bb).toInt64) / (8 : Int64)) * (8 : Int64)) = (0 : Int64)) : ((((((cc + (1 : Int64)) - (1 : Int64)) / (1 : Int64)) * (bb).toInt64) + (7 : Int64)) / (8 : Int64)) = (((((cc / (1 : Int64)) + (1 : Int64)) * (bb).toInt64) / (8 : Int64)) + (0 : Int64)) := by
  obtain ⟨b1, b2⟩ := own_B1f hB hc h1
  have p := own_prod hB b2
  rw [← b1]
  generalize (((cc / (1 : Int64)) + (1 : Int64)) * (bb).toInt64) = X at *
  obtain ⟨x1, x2, x3⟩ := own_eighth p
  have e0 : (0 : Int64).toInt = 0 := by decide
  have e1 : (1 : Int64).toInt = 1 := by decide
  rw [← Int64.toInt_inj, x1, e0] at h2
  have a := c_ladd (X / 8) (0 : Int64)
  have r := rng64 (X / 8 + (0 : Int64))
  apply Int64.toInt_inj.mp
  rw [x3]
  omega
theorem own_f1_ff {bb : Int32} {cc : Int64} (hB : 1 ≤ bb.toInt ∧ bb.toInt ≤ 57) (hc : 0 ≤ (cc).toInt ∧ (cc).toInt < 72057594037927936) (h1 : ¬ (cc - (cc / (1 : Int64)) * (1 : Int64)) = (0 : Int64)) (h2 : ¬ ((((cc / (1 : Int64)) + (1 : Int64)) * (bb).toInt64) - ((((cc / (1 : Int64)) + (1 : Int64)) * (bb).toInt64) / (8 : Int64)) * (8 : Int64)) = (0 : Int64)) : ((((((cc + (1 : Int64)) - (1 : Int64)) / (1 : Int64)) * (bb).toInt64) + (7 : Int64)) / (8 : Int64)) = (((((cc / (1 : Int64)) + (1 : Int64)) * (bb).toInt64) / (8 : Int64)) + (1 : Int64)) := by
  obtain ⟨b1, b2⟩ := own_B1f hB hc h1
  have p := own_prod hB b2
  rw [← b1]
  generalize (((cc / (1 : Int64)) + (1 : Int64)) * (bb).toInt64) = X at *
  obtain ⟨x1, x2, x3⟩ := own_eighth p
  have e0 : (0 : Int64).toInt = 0 := by decide
  have e1 : (1 : Int64).toInt = 1 := by decide
  rw [← Int64.toInt_inj, x1, e0] at h2
  have a := c_ladd (X / 8) (1 : Int64)
  have r := rng64 (X / 8 + (1 : Int64))
  apply Int64.toInt_inj.mp
  rw [x3]
  omega
theorem own_A2 {cc : Int64} (hc : 0 ≤ (cc).toInt ∧ (cc).toInt < 72057594037927936) : (((cc + (2 : Int64)) - (1 : Int64)) / (2 : Int64)).toInt = (cc.toInt + 1) / 2 ∧ (cc / (2 : Int64)).toInt = cc.toInt / 2 ∧ (cc - (cc / (2 : Int64)) * (2 : Int64)).toInt = cc.toInt % 2 := by
  have e1 : (1 : Int64).toInt = 1 := by decide
  have eg : (2 : Int64).toInt = 2 := by decide
  have a := c_ladd cc (2 : Int64)
  have r := rng64 (cc + (2 : Int64))
  have b := c_lsub (cc + (2 : Int64)) 1
  have r2 := rng64 (cc + (2 : Int64) - 1)
  have s : (cc + (2 : Int64) - 1).toInt = cc.toInt + 1 := by omega
  have h3 := (c_ldiv (cc + (2 : Int64) - 1) (2 : Int64) 2 (by decide) (by decide)).1 (by omega)
  rw [s] at h3
  exact ⟨h3, (c_ldiv cc (2 : Int64) 2 (by decide) (by decide)).1 hc.1, (c_lrem cc (2 : Int64) 2 (by decide)).1 hc.1⟩
theorem own_B2t {bb : Int32} {cc : Int64} (hB : 1 ≤ bb.toInt ∧ bb.toInt ≤ 57) (hc : 0 ≤ (cc).toInt ∧ (cc).toInt < 72057594037927936) (h1 : (cc - (cc / (2 : Int64)) * (2 : Int64)) = (0 : Int64)) : ((cc / (2 : Int64)) + (0 : Int64)) = (((cc + (2 : Int64)) - (1 : Int64)) / (2 : Int64)) ∧ 0 ≤ ((cc / (2 : Int64)) + (0 : Int64)).toInt ∧ ((cc / (2 : Int64)) + (0 : Int64)).toInt ≤ 72057594037927936 := by
  obtain ⟨a1, a2, a3⟩ := own_A2 hc
  have e0 : (0 : Int64).toInt = 0 := by decide
  have e1 : (1 : Int64).toInt = 1 := by decide
  rw [← Int64.toInt_inj, a3, e0] at h1
  have a := c_ladd (cc / (2 : Int64)) (0 : Int64)
  have r := rng64 ((cc / (2 : Int64)) + (0 : Int64))
  have s : ((cc / (2 : Int64)) + (0 : Int64)).toInt = cc.toInt / 2 + 0 := by omega
  refine ⟨Int64.toInt_inj.mp (by rw [s, a1]; omega), by omega, by omega⟩
theorem own_f2_tt {bb : Int32} {cc : Int64} (hB : 1 ≤ bb.toInt ∧ bb.toInt ≤ 57) (hc : 0 ≤ (cc).toInt ∧ (cc).toInt < 72057594037927936) (h1 : (cc - (cc / (2 : Int64)) * (2 : Int64)) = (0 : Int64)) (h2 : ((((cc / (2 : Int64)) + (0 : Int64)) * (bb).toInt64) - ((((cc / (2 : Int64)) + (0 : Int64)) * (bb).toInt64) / (8 : Int64)) * (8 : Int64)) = (0 : Int64)) : ((((((cc + (2 : Int64)) - (1 : Int64)) / (2 : Int64)) * (bb).toInt64) + (7 : Int64)) / (8 : Int64)) = (((((cc / (2 : Int64)) + (0 : Int64)) * (bb).toInt64) / (8 : Int64)) + (0 : Int64)) := by
  obtain ⟨b1, b2⟩ := own_B2t hB hc h1
  have p := own_prod hB b2
  rw [← b1]
  generalize (((cc / (2 : Int64)) + (0 : Int64)) * (bb).toInt64) = X at *
  obtain ⟨x1, x2, x3⟩ := own_eighth p
  have e0 : (0 : Int64).toInt = 0 := by decide
  have e1 : (1 : Int64).toInt = 1 := by decide
  rw [← Int64.toInt_inj, x1, e0] at h2
  have a := c_ladd (X / 8) (0 : Int64)
  have r := rng64 (X / 8 + (0 : Int64))
  apply Int64.toInt_inj.mp
  rw [x3]
  omega
theorem own_f2_tf {bb : Int32} {cc : Int64} (hB : 1 ≤ bb.toInt ∧ bb.toInt ≤ 57) (hc : 0 ≤ (cc).toInt ∧ (cc).toInt < 72057594037927936) (h1 : (cc - (cc / (2 : Int64)) * (2 : Int64)) = (0 : Int64)) (h2 : ¬ ((((cc / (2 : Int64)) + (0 : Int64)) * (bb).toInt64) - ((((cc / (2 : Int64)) + (0 : Int64)) * (bb).toInt64) / (8 : Int64)) * (8 : Int64)) = (0 : Int64)) : ((((((cc + (2 : Int64)) - (1 : Int64)) / (2 : Int64)) * (bb).toInt64) + (7 : Int64)) / (8 : Int64)) = (((((cc / (2 : Int64)) + (0 : Int64)) * (bb).toInt64) / (8 : Int64)) + (1 : Int64)) := by
  obtain ⟨b1, b2⟩ := own_B2t hB hc h1
  have p := own_prod hB b2
  rw [← b1]
  generalize (((cc / (2 : Int64)) + (0 : Int64)) * (bb).toInt64) = X at *
  obtain ⟨x1, x2, x3⟩ := own_eighth p
  have e0 : (0 : Int64).toInt = 0 := by decide
  have e1 : (1 : Int64).toInt = 1 := by decide
  rw [← Int64.toInt_inj, x1, e0] at h2
  have a := c_ladd (X / 8) (1 : Int64)
  have r := rng64 (X / 8 + (1 : Int64))
  apply Int64.toInt_inj.mp
  rw [x3]
  omega
theorem own_B2f {bb : Int32} {cc : Int64} (hB : 1 ≤ bb.toInt ∧ bb.toInt ≤ 57) (hc : 0 ≤ (cc).toInt ∧ (cc).toInt < 72057594037927936) (h1 : ¬ (cc - (cc / (2 : Int64)) * (2 : Int64)) = (0 : Int64)) : ((cc / (2 : Int64)) + (1 : Int64)) = (((cc + (2 : Int64)) - (1 : Int64)) / (2 : Int64)) ∧ 0 ≤ ((cc / (2 : Int64)) + (1 : Int64)).toInt ∧ ((cc / (2 : Int64)) + (1 : Int64)).toInt ≤ 72057594037927936 := by
  obtain ⟨a1, a2, a3⟩ := own_A2 hc
  have e0 : (0 : Int64).toInt = 0 := by decide
  have e1 : (1 : Int64).toInt = 1 := by decide
  rw [← Int64.toInt_inj, a3, e0] at h1
  have a := c_ladd (cc / (2 : Int64)) (1 : Int64)
  have r := rng64 ((cc / (2 : Int64)) + (1 : Int64))
  have s : ((cc / (2 : Int64)) + (1 : Int64)).toInt = cc.toInt / 2 + 1 := by omega
  refine ⟨Int64.toInt_inj.mp (by rw [s, a1]; omega), by omega, by omega⟩
theorem own_f2_ft {bb : Int32} {cc : Int64} (hB : 1 ≤ bb.toInt ∧ bb.toInt ≤ 57) (hc : 0 ≤ (cc).toInt ∧ (cc).toInt < 72057594037927936) (h1 : ¬ (cc - (cc / (2 : Int64)) * (2 : Int64)) = (0 : Int64)) (h2 : ((((cc / (2 : Int64)) + (1 : Int64)) * (bb).toInt64) - ((((cc / (2 : Int64)) + (1 : Int64)) * (bb).toInt64) / (8 : Int64)) * (8 : Int64)) = (0 : Int64)) : ((((((cc + (2 : Int64)) - (1 : Int64)) / (2 : Int64)) * (bb).toInt64) + (7 : Int64)) / (8 : Int64)) = (((((cc / (2 : Int64)) + (1 : Int64)) * (bb).toInt64) / (8 : Int64)) + (0 : Int64)) := by
  obtain ⟨b1, b2⟩ := own_B2f hB hc h1
  have p := own_prod hB b2
  rw [← b1]
  generalize (((cc / (2 : Int64)) + (1 : Int64)) * (bb).toInt64) = X at *
  obtain ⟨x1, x2, x3⟩ := own_eighth p
  have e0 : (0 : Int64).toInt = 0 := by decide
  have e1 : (1 : Int64).toInt = 1 := by decide
  rw [← Int64.toInt_inj, x1, e0] at h2
  have a := c_ladd (X / 8) (0 : Int64)
  have r := rng64 (X / 8 + (0 : Int64))
  apply Int64.toInt_inj.mp
  rw [x3]
  omega
theorem own_f2_ff {bb : Int32} {cc : Int64} (hB : 1 ≤ bb.toInt ∧ bb.toInt ≤ 57) (hc : 0 ≤ (cc).toInt ∧ (cc).toInt < 72057594037927936) (h1 : ¬ (cc - (cc / (2 : Int64)) * (2 : Int64)) = (0 : Int64)) (h2 : ¬ ((((cc / (2 : Int64)) + (1 : Int64)) * (bb).toInt64) - ((((cc / (2 : Int64)) + (1 : Int64)) * (bb).toInt64) / (8 : Int64)) * (8 : Int64)) = (0 : Int64)) : ((((((cc + (2 : Int64)) - (1 : Int64)) / (2 : Int64)) * (bb).toInt64) + (7 : Int64)) / (8 : Int64)) = (((((cc / (2 : Int64)) + (1 : Int64)) * (bb).toInt64) / (8 : Int64)) + (1 : Int64)) := by
  obtain ⟨b1, b2⟩ := own_B2f hB hc h1
  have p := own_prod hB b2
  rw [← b1]
  generalize (((cc / (2 : Int64)) + (1 : Int64)) * (bb).toInt64) = X at *
  obtain ⟨x1, x2, x3⟩ := own_eighth p
  have e0 : (0 : Int64).toInt = 0 := by decide
  have e1 : (1 : Int64).toInt = 1 := by decide
  rw [← Int64.toInt_inj, x1, e0] at h2
  have a := c_ladd (X / 8) (1 : Int64)
  have r := rng64 (X / 8 + (1 : Int64))
  apply Int64.toInt_inj.mp
  rw [x3]
  omega
theorem own_A3 {cc : Int64} (hc : 0 ≤ (cc).toInt ∧ (cc).toInt < 72057594037927936) : (((cc + (3 : Int64)) - (1 : Int64)) / (3 : Int64)).toInt = (cc.toInt + 2) / 3 ∧ (cc / (3 : Int64)).toInt = cc.toInt / 3 ∧ (cc - (cc / (3 : Int64)) * (3 : Int64)).toInt = cc.toInt % 3 := by
  have e1 : (1 : Int64).toInt = 1 := by decide
  have eg : (3 : Int64).toInt = 3 := by decide
  have a := c_ladd cc (3 : Int64)
  have r := rng64 (cc + (3 : Int64))
  have b := c_lsub (cc + (3 : Int64)) 1
  have r2 := rng64 (cc + (3 : Int64) - 1)
  have s : (cc + (3 : Int64) - 1).toInt = cc.toInt + 2 := by omega
  have h3 := (c_ldiv (cc + (3 : Int64) - 1) (3 : Int64) 3 (by decide) (by decide)).1 (by omega)
  rw [s] at h3
  exact ⟨h3, (c_ldiv cc (3 : Int64) 3 (by decide) (by decide)).1 hc.1, (c_lrem cc (3 : Int64) 3 (by decide)).1 hc.1⟩
theorem own_B3t {bb : Int32} {cc : Int64} (hB : 1 ≤ bb.toInt ∧ bb.toInt ≤ 57) (hc : 0 ≤ (cc).toInt ∧ (cc).toInt < 72057594037927936) (h1 : (cc - (cc / (3 : Int64)) * (3 : Int64)) = (0 : Int64)) : ((cc / (3 : Int64)) + (0 : Int64)) = (((cc + (3 : Int64)) - (1 : Int64)) / (3 : Int64)) ∧ 0 ≤ ((cc / (3 : Int64)) + (0 : Int64)).toInt ∧ ((cc / (3 : Int64)) + (0 : Int64)).toInt ≤ 72057594037927936 := by
  obtain ⟨a1, a2, a3⟩ := own_A3 hc
  have e0 : (0 : Int64).toInt = 0 := by decide
  have e1 : (1 : Int64).toInt = 1 := by decide
  rw [← Int64.toInt_inj, a3, e0] at h1
  have a := c_ladd (cc / (3 : Int64)) (0 : Int64)
  have r := rng64 ((cc / (3 : Int64)) + (0 : Int64))
  have s : ((cc / (3 : Int64)) + (0 : Int64)).toInt = cc.toInt / 3 + 0 := by omega
  refine ⟨Int64.toInt_inj.mp (by rw [s, a1]; omega), by omega, by omega⟩
theorem own_f3_tt {bb : Int32} {cc : Int64} (hB : 1 ≤ bb.toInt ∧ bb.toInt ≤ 57) (hc : 0 ≤ (cc).toInt ∧ (cc).toInt < 72057594037927936) (h1 : (cc - (cc / (3 : Int64)) * (3 : Int64)) = (0 : Int64)) (h2 : ((((cc / (3 : Int64)) + (0 : Int64)) * (bb).toInt64) - ((((cc / (3 : Int64)) + (0 : Int64)) * (bb).toInt64) / (8 : Int64)) * (8 : Int64)) = (0 : Int64)) : ((((((cc + (3 : Int64)) - (1 : Int64)) / (3 : Int64)) * (bb).toInt64) + (7 : Int64)) / (8 : Int64)) = (((((cc / (3 : Int64)) + (0 : Int64)) * (bb).toInt64) / (8 : Int64)) + (0 : Int64)) := by
  obtain ⟨b1, b2⟩ := own_B3t hB hc h1
  have p := own_prod hB b2
  rw [← b1]
  generalize (((cc / (3 : Int64)) + (0 : Int64)) * (bb).toInt64) = X at *
  obtain ⟨x1, x2, x3⟩ := own_eighth p
  have e0 : (0 : Int64).toInt = 0 := by decide
  have e1 : (1 : Int64).toInt = 1 := by decide
  rw [← Int64.toInt_inj, x1, e0] at h2
  have a := c_ladd (X / 8) (0 : Int64)
  have r := rng64 (X / 8 + (0 : Int64))
  apply Int64.toInt_inj.mp
  rw [x3]
  omega
theorem own_f3_tf {bb : Int32} {cc : Int64} (hB : 1 ≤ bb.toInt ∧ bb.toInt ≤ 57) (hc : 0 ≤ (cc).toInt ∧ (cc).toInt < 72057594037927936) (h1 : (cc - (cc / (3 : Int64)) * (3 : Int64)) = (0 : Int64)) (h2 : ¬ ((((cc / (3 : Int64)) + (0 : Int64)) * (bb).toInt64) - ((((cc / (3 : Int64)) + (0 : Int64)) * (bb).toInt64) / (8 : Int64)) * (8 : Int64)) = (0 : Int64)) : ((((((cc + (3 : Int64)) - (1 : Int64)) / (3 : Int64)) * (bb).toInt64) + (7 : Int64)) / (8 : Int64)) = (((((cc / (3 : Int64)) + (0 : Int64)) * (bb).toInt64) / (8 : Int64)) + (1 : Int64)) := by
  obtain ⟨b1, b2⟩ := own_B3t hB hc h1
  have p := own_prod hB b2
  rw [← b1]
  generalize (((cc / (3 : Int64)) + (0 : Int64)) * (bb).toInt64) = X at *
  obtain ⟨x1, x2, x3⟩ := own_eighth p
  have e0 : (0 : Int64).toInt = 0 := by decide
  have e1 : (1 : Int64).toInt = 1 := by decide
  rw [← Int64.toInt_inj, x1, e0] at h2
  have a := c_ladd (X / 8) (1 : Int64)
  have r := rng64 (X / 8 + (1 : Int64))
  apply Int64.toInt_inj.mp
  rw [x3]
  omega
theorem own_B3f {bb : Int32} {cc : Int64} (hB : 1 ≤ bb.toInt ∧ bb.toInt ≤ 57) (hc : 0 ≤ (cc).toInt ∧ (cc).toInt < 72057594037927936) (h1 : ¬ (cc - (cc / (3 : Int64)) * (3 : Int64)) = (0 : Int64)) : ((cc / (3 : Int64)) + (1 : Int64)) = (((cc + (3 : Int64)) - (1 : Int64)) / (3 : Int64)) ∧ 0 ≤ ((cc / (3 : Int64)) + (1 : Int64)).toInt ∧ ((cc / (3 : Int64)) + (1 : Int64)).toInt ≤ 72057594037927936 := by
  obtain ⟨a1, a2, a3⟩ := own_A3 hc
  have e0 : (0 : Int64).toInt = 0 := by decide
  have e1 : (1 : Int64).toInt = 1 := by decide
  rw [← Int64.toInt_inj, a3, e0] at h1
  have a := c_ladd (cc / (3 : Int64)) (1 : Int64)
  have r := rng64 ((cc / (3 : Int64)) + (1 : Int64))
  have s : ((cc / (3 : Int64)) + (1 : Int64)).toInt = cc.toInt / 3 + 1 := by omega
  refine ⟨Int64.toInt_inj.mp (by rw [s, a1]; omega), by omega, by omega⟩
theorem own_f3_ft {bb : Int32} {cc : Int64} (hB : 1 ≤ bb.toInt ∧ bb.toInt ≤ 57) (hc : 0 ≤ (cc).toInt ∧ (cc).toInt < 72057594037927936) (h1 : ¬ (cc - (cc / (3 : Int64)) * (3 : Int64)) = (0 : Int64)) (h2 : ((((cc / (3 : Int64)) + (1 : Int64)) * (bb).toInt64) - ((((cc / (3 : Int64)) + (1 : Int64)) * (bb).toInt64) / (8 : Int64)) * (8 : Int64)) = (0 : Int64)) : ((((((cc + (3 : Int64)) - (1 : Int64)) / (3 : Int64)) * (bb).toInt64) + (7 : Int64)) / (8 : Int64)) = (((((cc / (3 : Int64)) + (1 : Int64)) * (bb).toInt64) / (8 : Int64)) + (0 : Int64)) := by
  obtain ⟨b1, b2⟩ := own_B3f hB hc h1
  have p := own_prod hB b2
  rw [← b1]
  generalize (((cc / (3 : Int64)) + (1 : Int64)) * (bb).toInt64) = X at *
  obtain ⟨x1, x2, x3⟩ := own_eighth p
  have e0 : (0 : Int64).toInt = 0 := by decide
  have e1 : (1 : Int64).toInt = 1 := by decide
  rw [← Int64.toInt_inj, x1, e0] at h2
  have a := c_ladd (X / 8) (0 : Int64)
  have r := rng64 (X / 8 + (0 : Int64))
  apply Int64.toInt_inj.mp
  rw [x3]
  omega
theorem own_f3_ff {bb : Int32} {cc : Int64} (hB : 1 ≤ bb.toInt ∧ bb.toInt ≤ 57) (hc : 0 ≤ (cc).toInt ∧ (cc).toInt < 72057594037927936) (h1 : ¬ (cc - (cc / (3 : Int64)) * (3 : Int64)) = (0 : Int64)) (h2 : ¬ ((((cc / (3 : Int64)) + (1 : Int64)) * (bb).toInt64) - ((((cc / (3 : Int64)) + (1 : Int64)) * (bb).toInt64) / (8 : Int64)) * (8 : Int64)) = (0 : Int64)) : ((((((cc + (3 : Int64)) - (1 : Int64)) / (3 : Int64)) * (bb).toInt64) + (7 : Int64)) / (8 : Int64)) = (((((cc / (3 : Int64)) + (1 : Int64)) * (bb).toInt64) / (8 : Int64)) + (1 : Int64)) := by
  obtain ⟨b1, b2⟩ := own_B3f hB hc h1
  have p := own_prod hB b2
  rw [← b1]
  generalize (((cc / (3 : Int64)) + (1 : Int64)) * (bb).toInt64) = X at *
  obtain ⟨x1, x2, x3⟩ := own_eighth p
  have e0 : (0 : Int64).toInt = 0 := by decide
  have e1 : (1 : Int64).toInt = 1 := by decide
  rw [← Int64.toInt_inj, x1, e0] at h2
  have a := c_ladd (X / 8) (1 : Int64)
  have r := rng64 (X / 8 + (1 : Int64))
  apply Int64.toInt_inj.mp
  rw [x3]
  omega
theorem own_A4 {cc : Int64} (hc : 0 ≤ (cc).toInt ∧ (cc).toInt < 72057594037927936) : (((cc + (4 : Int64)) - (1 : Int64)) / (4 : Int64)).toInt = (cc.toInt + 3) / 4 ∧ (cc / (4 : Int64)).toInt = cc.toInt / 4 ∧ (cc - (cc / (4 : Int64)) * (4 : Int64)).toInt = cc.toInt % 4 := by
  have e1 : (1 : Int64).toInt = 1 := by decide
  have eg : (4 : Int64).toInt = 4 := by decide
  have a := c_ladd cc (4 : Int64)
  have r := rng64 (cc + (4 : Int64))
  have b := c_lsub (cc + (4 : Int64)) 1
  have r2 := rng64 (cc + (4 : Int64) - 1)
  have s : (cc + (4 : Int64) - 1).toInt = cc.toInt + 3 := by omega
  have h3 := (c_ldiv (cc + (4 : Int64) - 1) (4 : Int64) 4 (by decide) (by decide)).1 (by omega)
  rw [s] at h3
  exact ⟨h3, (c_ldiv cc (4 : Int64) 4 (by decide) (by decide)).1 hc.1, (c_lrem cc (4 : Int64) 4 (by decide)).1 hc.1⟩
theorem own_B4t {bb : Int32} {cc : Int64} (hB : 1 ≤ bb.toInt ∧ bb.toInt ≤ 57) (hc : 0 ≤ (cc).toInt ∧ (cc).toInt < 72057594037927936) (h1 : (cc - (cc / (4 : Int64)) * (4 : Int64)) = (0 : Int64)) : ((cc / (4 : Int64)) + (0 : Int64)) = (((cc + (4 : Int64)) - (1 : Int64)) / (4 : Int64)) ∧ 0 ≤ ((cc / (4 : Int64)) + (0 : Int64)).toInt ∧ ((cc / (4 : Int64)) + (0 : Int64)).toInt ≤ 72057594037927936 := by
  obtain ⟨a1, a2, a3⟩ := own_A4 hc
  have e0 : (0 : Int64).toInt = 0 := by decide
  have e1 : (1 : Int64).toInt = 1 := by decide
  rw [← Int64.toInt_inj, a3, e0] at h1
  have a := c_ladd (cc / (4 : Int64)) (0 : Int64)
  have r := rng64 ((cc / (4 : Int64)) + (0 : Int64))
  have s : ((cc / (4 : Int64)) + (0 : Int64)).toInt = cc.toInt / 4 + 0 := by omega
  refine ⟨Int64.toInt_inj.mp (by rw [s, a1]; omega), by omega, by omega⟩
theorem own_f4_tt {bb : Int32} {cc : Int64} (hB : 1 ≤ bb.toInt ∧ bb.toInt ≤ 57) (hc : 0 ≤ (cc).toInt ∧ (cc).toInt < 72057594037927936) (h1 : (cc - (cc / (4 : Int64)) * (4 : Int64)) = (0 : Int64)) (h2 : ((((cc / (4 : Int64)) + (0 : Int64)) * (bb).toInt64) - ((((cc / (4 : Int64)) + (0 : Int64)) * (bb).toInt64) / (8 : Int64)) * (8 : Int64)) = (0 : Int64)) : ((((((cc + (4 : Int64)) - (1 : Int64)) / (4 : Int64)) * (bb).toInt64) + (7 : Int64)) / (8 : Int64)) = (((((cc / (4 : Int64)) + (0 : Int64)) * (bb).toInt64) / (8 : Int64)) + (0 : Int64)) := by
  obtain ⟨b1, b2⟩ := own_B4t hB hc h1
  have p := own_prod hB b2
  rw [← b1]
  generalize (((cc / (4 : Int64)) + (0 : Int64)) * (bb).toInt64) = X at *
  obtain ⟨x1, x2, x3⟩ := own_eighth p
  have e0 : (0 : Int64).toInt = 0 := by decide
  have e1 : (1 : Int64).toInt = 1 := by decide
  rw [← Int64.toInt_inj, x1, e0] at h2
  have a := c_ladd (X / 8) (0 : Int64)
  have r := rng64 (X / 8 + (0 : Int64))
  apply Int64.toInt_inj.mp
  rw [x3]
  omega
theorem own_f4_tf {bb : Int32} {cc : Int64} (hB : 1 ≤ bb.toInt ∧ bb.toInt ≤ 57) (hc : 0 ≤ (cc).toInt ∧ (cc).toInt < 72057594037927936) (h1 : (cc - (cc / (4 : Int64)) * (4 : Int64)) = (0 : Int64)) (h2 : ¬ ((((cc / (4 : Int64)) + (0 : Int64)) * (bb).toInt64) - ((((cc / (4 : Int64)) + (0 : Int64)) * (bb).toInt64) / (8 : Int64)) * (8 : Int64)) = (0 : Int64)) : ((((((cc + (4 : Int64)) - (1 : Int64)) / (4 : Int64)) * (bb).toInt64) + (7 : Int64)) / (8 : Int64)) = (((((cc / (4 : Int64)) + (0 : Int64)) * (bb).toInt64) / (8 : Int64)) + (1 : Int64)) := by
  obtain ⟨b1, b2⟩ := own_B4t hB hc h1
  have p := own_prod hB b2
  rw [← b1]
  generalize (((cc / (4 : Int64)) + (0 : Int64)) * (bb).toInt64) = X at *
  obtain ⟨x1, x2, x3⟩ := own_eighth p
  have e0 : (0 : Int64).toInt = 0 := by decide
  have e1 : (1 : Int64).toInt = 1 := by decide
  rw [← Int64.toInt_inj, x1, e0] at h2
  have a := c_ladd (X / 8) (1 : Int64)
  have r := rng64 (X / 8 + (1 : Int64))
  apply Int64.toInt_inj.mp
  rw [x3]
  omega
theorem own_B4f {bb : Int32} {cc : Int64} (hB : 1 ≤ bb.toInt ∧ bb.toInt ≤ 57) (hc : 0 ≤ (cc).toInt ∧ (cc).toInt < 72057594037927936) (h1 : ¬ (cc - (cc / (4 : Int64)) * (4 : Int64)) = (0 : Int64)) : ((cc / (4 : Int64)) + (1 : Int64)) = (((cc + (4 : Int64)) - (1 : Int64)) / (4 : Int64)) ∧ 0 ≤ ((cc / (4 : Int64)) + (1 : Int64)).toInt ∧ ((cc / (4 : Int64)) + (1 : Int64)).toInt ≤ 72057594037927936 := by
  obtain ⟨a1, a2, a3⟩ := own_A4 hc
  have e0 : (0 : Int64).toInt = 0 := by decide
  have e1 : (1 : Int64).toInt = 1 := by decide
  rw [← Int64.toInt_inj, a3, e0] at h1
  have a := c_ladd (cc / (4 : Int64)) (1 : Int64)
  have r := rng64 ((cc / (4 : Int64)) + (1 : Int64))
  have s : ((cc / (4 : Int64)) + (1 : Int64)).toInt = cc.toInt / 4 + 1 := by omega
  refine ⟨Int64.toInt_inj.mp (by rw [s, a1]; omega), by omega, by omega⟩
theorem own_f4_ft {bb : Int32} {cc : Int64} (hB : 1 ≤ bb.toInt ∧ bb.toInt ≤ 57) (hc : 0 ≤ (cc).toInt ∧ (cc).toInt < 72057594037927936) (h1 : ¬ (cc - (cc / (4 : Int64)) * (4 : Int64)) = (0 : Int64)) (h2 : ((((cc / (4 : Int64)) + (1 : Int64)) * (bb).toInt64) - ((((cc / (4 : Int64)) + (1 : Int64)) * (bb).toInt64) / (8 : Int64)) * (8 : Int64)) = (0 : Int64)) : ((((((cc + (4 : Int64)) - (1 : Int64)) / (4 : Int64)) * (bb).toInt64) + (7 : Int64)) / (8 : Int64)) = (((((cc / (4 : Int64)) + (1 : Int64)) * (bb).toInt64) / (8 : Int64)) + (0 : Int64)) := by
  obtain ⟨b1, b2⟩ := own_B4f hB hc h1
  have p := own_prod hB b2
  rw [← b1]
  generalize (((cc / (4 : Int64)) + (1 : Int64)) * (bb).toInt64) = X at *
  obtain ⟨x1, x2, x3⟩ := own_eighth p
  have e0 : (0 : Int64).toInt = 0 := by decide
  have e1 : (1 : Int64).toInt = 1 := by decide
  rw [← Int64.toInt_inj, x1, e0] at h2
  have a := c_ladd (X / 8) (0 : Int64)
  have r := rng64 (X / 8 + (0 : Int64))
  apply Int64.toInt_inj.mp
  rw [x3]
  omega
theorem own_f4_ff {bb : Int32} {cc : Int64} (hB : 1 ≤ bb.toInt ∧ bb.toInt ≤ 57) (hc : 0 ≤ (cc).toInt ∧ (cc).toInt < 72057594037927936) (h1 : ¬ (cc - (cc / (4 : Int64)) * (4 : Int64)) = (0 : Int64)) (h2 : ¬ ((((cc / (4 : Int64)) + (1 : Int64)) * (bb).toInt64) - ((((cc / (4 : Int64)) + (1 : Int64)) * (bb).toInt64) / (8 : Int64)) * (8 : Int64)) = (0 : Int64)) : ((((((cc + (4 : Int64)) - (1 : Int64)) / (4 : Int64)) * (bb).toInt64) + (7 : Int64)) / (8 : Int64)) = (((((cc / (4 : Int64)) + (1 : Int64)) * (bb).toInt64) / (8 : Int64)) + (1 : Int64)) := by
  obtain ⟨b1, b2⟩ := own_B4f hB hc h1
  have p := own_prod hB b2
  rw [← b1]
  generalize (((cc / (4 : Int64)) + (1 : Int64)) * (bb).toInt64) = X at *
  obtain ⟨x1, x2, x3⟩ := own_eighth p
  have e0 : (0 : Int64).toInt = 0 := by decide
  have e1 : (1 : Int64).toInt = 1 := by decide
  rw [← Int64.toInt_inj, x1, e0] at h2
  have a := c_ladd (X / 8) (1 : Int64)
  have r := rng64 (X / 8 + (1 : Int64))
  apply Int64.toInt_inj.mp
  rw [x3]
  omega
theorem pd0_0 : parseMethodDescriptor "(II)V" = some ⟨[.int, .int], none⟩ := by decide +kernel
theorem pd0_1 : parseMethodDescriptor "(J)J" = some ⟨[.long], some .long⟩ := by decide +kernel
theorem pn0 : plainName "com/example/known_leaks/knownleaks/CellPackingBytesPinLaw" = true := by first | (simp [plainName, overriddenIn]; done) | decide +kernel
theorem ef0 (m : MethodId) (x0 : Int32) (x1 : Int32) (x2 : Int64) : entryFrame m #[(.int x0), (.int x1), (.long x2)] maxLocals = mkF m 0 #[.val (.int x0), .val (.int x1), .val (.long x2), .second, .unset, .unset, .unset, .unset, .unset, .unset, .unset, .unset, .unset, .unset, .unset, .unset, .unset, .unset, .unset, .unset, .unset, .unset, .unset, .unset] [] := by first | (simp [entryFrame, mkF, argsToLocals, Value.category, maxLocals]; done) | rfl
set_option maxRecDepth 65536 in
set_option maxHeartbeats 40000000 in
theorem rm_law (l : Launch) (Z : State) (a0 : Array Value) (hw : ∀ d ∈ tables_1, d.before a0 Z = true) (ws : List Jvm.Cond) (p0 : Int32) (p1 : Int32) (q2 : Int64)  (h0 : Heap) (n0 : Nat) (Z0 : n0 ≤ h0.size)  :
    MetFree l x (head1 (Jvm.Cond.code x code maxLocals ret :: ws) room_1) (fun a U => a = #[(.int p0), (.int p1), (.long q2)] ∧ Z.Warmed39 U.vm ∧ U.heap = h0) (fun _ _ _ _ _ => True) (fun _ U o U' => ∃ v L, o = .returned v ∧ QL n0 v U'.heap L ∧ FrameEnd U o U' L 16 128) := by
  refine MetFree.of_bodySF (plainFor_of_name pn0) hisR ?_
  intro p e s m args below meth c s₁ Bd hml0 hP hK
  obtain ⟨rfl, hZ, hh⟩ := hP
  have hx := Bd.exec
  have hby := Bd.bytes
  have hret := Bd.returns
  have hlk := Bd.notSynchronized
  have hml : c.maxLocals = 24 := hml0
  have hown : s.vm.findClass "com/example/known_leaks/knownleaks/CellPackingBytesPinLaw" = some m.cls := findClass_of_methodNamed Bd.named
  have hnm := (name_of_methodNamed Bd.named Bd.method).1
  have X0 : Stand p l e room_1 s m #[(.int p0), (.int p1), (.long q2)] below meth c s₁ [] 0 0 := Stand.of_body Bd
  have e0 : s₁.heap = h0 := by rw [← hh, Bd.state]; rfl
  have N0 := Fr.nil n0
  show Wp p e below (fun o s₂ => ∃ v L, o = .returned v ∧ QL n0 v s₂.heap L ∧ FrameEnd s o s₂ L 16 128) _
  refine Wp.back (U' := (s₁.setTop (mkF m 0 #[.val (.int p0), .val (.int p1), .val (.long q2), .second, .unset, .unset, .unset, .unset, .unset, .unset, .unset, .unset, .unset, .unset, .unset, .unset, .unset, .unset, .unset, .unset, .unset, .unset, .unset, .unset] []))) (fun t k => castTop (ef0 m p0 p1 q2) k) ?_
  refine Wp.back (U' := (s₁.setTop (mkF m 7 #[.val (.int p0), .val (.int p1), .val (.long q2), .second, .val (.int ((1 : Int32) + (p1 &&& (3 : Int32)))), .unset, .unset, .unset, .unset, .unset, .unset, .unset, .unset, .unset, .unset, .unset, .unset, .unset, .unset, .unset, .unset, .unset, .unset, .unset] []))) (fun t k => XT.iconstV X0.here hx rfl (1 : Int32) (hb hby at_0) (by decide) (XS.iloadN X0.here hx rfl (hb hby at_1) rfl (XT.iconstV X0.here hx rfl (3 : Int32) (hb hby at_2) (by decide) (XS.iand X0.here hx rfl (hb hby at_3) rfl (XS.iadd X0.here hx rfl (hb hby at_4) rfl (XS.istore X0.here hx rfl (hb hby at_5) rfl (l' := #[.val (.int p0), .val (.int p1), .val (.long q2), .second, .val (.int ((1 : Int32) + (p1 &&& (3 : Int32)))), .unset, .unset, .unset, .unset, .unset, .unset, .unset, .unset, .unset, .unset, .unset, .unset, .unset, .unset, .unset, .unset, .unset, .unset, .unset]) rfl k)))))) ?_
  rcases own_g p1 with hk1 | hk2 | hk3 | hk4
  · rw [hk1]
    refine Wp.back (U' := (s₁.setTop (mkF m 27 #[.val (.int p0), .val (.int p1), .val (.long q2), .second, .val (.int (1 : Int32)), .val (.long ((2 : Int64) + (((p0 &&& (2147483647 : Int32)) % (2147483646 : Int32))).toInt64)), .second, .unset, .unset, .unset, .unset, .unset, .unset, .unset, .unset, .unset, .unset, .unset, .unset, .unset, .unset, .unset, .unset, .unset] []))) (fun t k => XS.iload X0.here hx rfl (hb hby at_7) rfl (XT.iconstV X0.here hx rfl (1 : Int32) (hb hby at_9) (by decide) (XS.icmpNo X0.here hx rfl (hb hby at_10) rfl (teq (by decide)).2 (Jvm.Stand.ldc2J X0 hx hown (mvT hZ (hw _ (List.mem_of_getElem? (i := 0) rfl))) rfl (hb hby at_13) (XS.iloadN X0.here hx rfl (hb hby at_16) rfl (Jvm.Stand.ldcI X0 hx hown (mvT hZ (hw _ (List.mem_of_getElem? (i := 40) rfl))) rfl (hb hby at_17) (XS.iand X0.here hx rfl (hb hby at_19) rfl (Jvm.Stand.ldcI X0 hx hown (mvT hZ (hw _ (List.mem_of_getElem? (i := 41) rfl))) rfl (hb hby at_20) (iremM X0 hx rfl (hb hby at_22) rfl (by decide) (XS.i2l X0.here hx rfl (hb hby at_23) rfl (XS.ladd X0.here hx rfl (hb hby at_24) rfl (XS.lstore X0.here hx rfl (hb hby at_25) rfl (l' := #[.val (.int p0), .val (.int p1), .val (.long q2), .second, .val (.int (1 : Int32)), .val (.long ((2 : Int64) + (((p0 &&& (2147483647 : Int32)) % (2147483646 : Int32))).toInt64)), .second, .unset, .unset, .unset, .unset, .unset, .unset, .unset, .unset, .unset, .unset, .unset, .unset, .unset, .unset, .unset, .unset, .unset]) rfl k)))))))))))) ?_
    refine Wp.back (U' := (s₁.setTop (mkF m 82 #[.val (.int p0), .val (.int p1), .val (.long q2), .second, .val (.int (1 : Int32)), .val (.long ((2 : Int64) + (((p0 &&& (2147483647 : Int32)) % (2147483646 : Int32))).toInt64)), .second, .unset, .unset, .unset, .unset, .unset, .unset, .unset, .unset, .unset, .unset, .unset, .unset, .unset, .unset, .unset, .unset, .unset] []))) (fun t k => XS.goto X0.here hx rfl (pc0 := 27) (pc' := 82) rfl (hb hby at_27) (by decide) (by decide) k) ?_
    have hm : 2 ≤ (((2 : Int64) + (((p0 &&& (2147483647 : Int32)) % (2147483646 : Int32))).toInt64)).toInt ∧ (((2 : Int64) + (((p0 &&& (2147483647 : Int32)) % (2147483646 : Int32))).toInt64)).toInt < 2147483648 := own_m1 p0
    generalize ((2 : Int64) + (((p0 &&& (2147483647 : Int32)) % (2147483646 : Int32))).toInt64) = mm at hm ⊢
    refine Wp.back (U' := (s₁.setTop (mkF m 128 #[.val (.int p0), .val (.int p1), .val (.long q2), .second, .val (.int (1 : Int32)), .val (.long mm), .second, .val (.long ((144115188075855872 : Int64) / mm)), .second, .unset, .unset, .unset, .unset, .unset, .unset, .unset, .unset, .unset, .unset, .unset, .unset, .unset, .unset, .unset] [(.int (4 : Int32)), (.int (1 : Int32))]))) (fun t k => Jvm.Stand.ldc2J X0 hx hown (mvT hZ (hw _ (List.mem_of_getElem? (i := 1) rfl))) rfl (hb hby at_82) (XS.lload X0.here hx rfl (hb hby at_85) rfl (XS.ldiv X0.here hx rfl (hb hby at_87) rfl (own_mz hm) (XS.lstore X0.here hx rfl (hb hby at_88) rfl (l' := #[.val (.int p0), .val (.int p1), .val (.long q2), .second, .val (.int (1 : Int32)), .val (.long mm), .second, .val (.long ((144115188075855872 : Int64) / mm)), .second, .unset, .unset, .unset, .unset, .unset, .unset, .unset, .unset, .unset, .unset, .unset, .unset, .unset, .unset, .unset]) rfl (XS.iload X0.here hx rfl (hb hby at_90) rfl (XT.iconstV X0.here hx rfl (2 : Int32) (hb hby at_92) (by decide) (XS.icmpYes X0.here hx rfl (pc0 := 93) (pc' := 106) rfl (hb hby at_93) rfl (tlt (by decide)).1 (by decide) (by decide) (XS.iload X0.here hx rfl (hb hby at_106) rfl (XT.iconstV X0.here hx rfl (3 : Int32) (hb hby at_108) (by decide) (XS.icmpYes X0.here hx rfl (pc0 := 109) (pc' := 125) rfl (hb hby at_109) rfl (tlt (by decide)).1 (by decide) (by decide) (XS.iload X0.here hx rfl (hb hby at_125) rfl (XT.iconstV X0.here hx rfl (4 : Int32) (hb hby at_127) (by decide) k)))))))))))) ?_
    refine Wp.back (U' := (s₁.setTop (mkF m 190 #[.val (.int p0), .val (.int p1), .val (.long q2), .second, .val (.int (1 : Int32)), .val (.long mm), .second, .val (.long ((144115188075855872 : Int64) / mm)), .second, .val (.long mm), .second, .unset, .unset, .unset, .unset, .unset, .unset, .unset, .unset, .unset, .unset, .unset, .unset, .unset] []))) (fun t k => XS.icmpYes X0.here hx rfl (pc0 := 128) (pc' := 147) rfl (hb hby at_128) rfl (tlt (by decide)).1 (by decide) (by decide) (XS.lload X0.here hx rfl (hb hby at_147) rfl (XS.lstore X0.here hx rfl (hb hby at_149) rfl (l' := #[.val (.int p0), .val (.int p1), .val (.long q2), .second, .val (.int (1 : Int32)), .val (.long mm), .second, .val (.long ((144115188075855872 : Int64) / mm)), .second, .val (.long mm), .second, .unset, .unset, .unset, .unset, .unset, .unset, .unset, .unset, .unset, .unset, .unset, .unset, .unset]) rfl (XS.iload X0.here hx rfl (hb hby at_151) rfl (XT.iconstV X0.here hx rfl (2 : Int32) (hb hby at_153) (by decide) (XS.icmpYes X0.here hx rfl (pc0 := 154) (pc' := 164) rfl (hb hby at_154) rfl (tlt (by decide)).1 (by decide) (by decide) (XS.iload X0.here hx rfl (hb hby at_164) rfl (XT.iconstV X0.here hx rfl (3 : Int32) (hb hby at_166) (by decide) (XS.icmpYes X0.here hx rfl (pc0 := 167) (pc' := 177) rfl (hb hby at_167) rfl (tlt (by decide)).1 (by decide) (by decide) (XS.iload X0.here hx rfl (hb hby at_177) rfl (XT.iconstV X0.here hx rfl (4 : Int32) (hb hby at_179) (by decide) (XS.icmpYes X0.here hx rfl (pc0 := 180) (pc' := 190) rfl (hb hby at_180) rfl (tlt (by decide)).1 (by decide) (by decide) k)))))))))))) ?_
    obtain ⟨T1, h1, X1, e1, E1, A1, D1, -, st1⟩ := newO X0 hx hZ hown (hw _ (List.mem_of_getElem? (i := 2) rfl)) (hw _ (List.mem_of_getElem? (i := 3) rfl)) (hw _ (List.mem_of_getElem? (i := 4) rfl)) e0 (g := (mkF m 190 #[.val (.int p0), .val (.int p1), .val (.long q2), .second, .val (.int (1 : Int32)), .val (.long mm), .second, .val (.long ((144115188075855872 : Int64) / mm)), .second, .val (.long mm), .second, .unset, .unset, .unset, .unset, .unset, .unset, .unset, .unset, .unset, .unset, .unset, .unset, .unset] [])) rfl (hb hby at_190) (by decide) (by decide)
    obtain ⟨b1, g1⟩ : ∃ z, z = h0.size := ⟨_, rfl⟩
    rw [← g1] at A1 D1 st1
    have g_b1 : n0 ≤ b1 := Nat.le_trans Z0 (Nat.le_of_eq g1.symm)
    have f2_0 := Nat.le_trans Z0 E1.1
    have F1_13 : Fld Z h1 b1 "com/example/known_leaks/knownleaks/CellPacking" "powers" "[J" .null := D1 (Or.inr (hw _ (List.mem_of_getElem? (i := 13) rfl))) (ty := (.array .long)) (by decide)
    have F1_16 : Fld Z h1 b1 "com/example/known_leaks/knownleaks/CellPacking" "modulus" "I" (.int (0 : Int32)) := D1 (Or.inr (hw _ (List.mem_of_getElem? (i := 16) rfl))) (ty := .int) (by decide)
    have F1_18 : Fld Z h1 b1 "com/example/known_leaks/knownleaks/CellPacking" "cellsPerBlock" "I" (.int (0 : Int32)) := D1 (Or.inr (hw _ (List.mem_of_getElem? (i := 18) rfl))) (ty := .int) (by decide)
    have F1_29 : Fld Z h1 b1 "com/example/known_leaks/knownleaks/CellPacking" "blockBits" "I" (.int (0 : Int32)) := D1 (Or.inr (hw _ (List.mem_of_getElem? (i := 29) rfl))) (ty := .int) (by decide)
    refine Wp.back (U' := (T1.setTop (mkF m 193 #[.val (.int p0), .val (.int p1), .val (.long q2), .second, .val (.int (1 : Int32)), .val (.long mm), .second, .val (.long ((144115188075855872 : Int64) / mm)), .second, .val (.long mm), .second, .unset, .unset, .unset, .unset, .unset, .unset, .unset, .unset, .unset, .unset, .unset, .unset, .unset] [(.ref b1)]))) st1 ?_
    refine Wp.back (U' := (T1.setTop (mkF m 199 #[.val (.int p0), .val (.int p1), .val (.long q2), .second, .val (.int (1 : Int32)), .val (.long mm), .second, .val (.long ((144115188075855872 : Int64) / mm)), .second, .val (.long mm), .second, .unset, .unset, .unset, .unset, .unset, .unset, .unset, .unset, .unset, .unset, .unset, .unset, .unset] [(.int (1 : Int32)), (.int (mm).toInt32), (.ref b1), (.ref b1)]))) (fun t k => XS.dup X1.here hx rfl (hb hby at_193) rfl rfl (XS.lload X1.here hx rfl (hb hby at_194) rfl (XS.l2i X1.here hx rfl (hb hby at_196) rfl (XS.iload X1.here hx rfl (hb hby at_197) rfl k)))) ?_
    obtain ⟨_, _, ⟨T3, L3, k3, n3⟩, -, X3, ⟨Lc3, hQ3, l3, y3, z3⟩, st3⟩ := X1.specialBack hx (y := (⟨"com/example/known_leaks/knownleaks/CellPacking", "<init>", "(II)V"⟩ : MethodName)) rfl hown (mvT hZ (hw _ (List.mem_of_getElem? (i := 5) rfl))) (mvT hZ (hw _ (List.mem_of_getElem? (i := 6) rfl))) (mvT hZ (hw _ (List.mem_of_getElem? (i := 7) rfl))) (by decide) (backOf (W := 1) (rm_ini1 l Z a0 hw [] b1 (mm).toInt32  h1 n0 f2_0 A1 F1_13 F1_16 F1_18 F1_29 g_b1 (own_c2 hm) (own_cz hm) (own_p1_0 hm)) hZ (hw _ (List.mem_of_getElem? (i := 7) rfl)) (hw _ (List.mem_of_getElem? (i := 4) rfl)) (by decide) (by decide)) (g := (mkF m 199 #[.val (.int p0), .val (.int p1), .val (.long q2), .second, .val (.int (1 : Int32)), .val (.long mm), .second, .val (.long ((144115188075855872 : Int64) / mm)), .second, .val (.long mm), .second, .unset, .unset, .unset, .unset, .unset, .unset, .unset, .unset, .unset, .unset, .unset, .unset, .unset] [(.int (1 : Int32)), (.int (mm).toInt32), (.ref b1), (.ref b1)])) rfl (by rw [hml]; rfl) (Steps.refl _) (a := b1) (argsL := [(.int (mm).toInt32), (.int (1 : Int32))]) (rest := [(.ref b1)]) (lenOf pd0_0 rfl) rfl (by show 2 * 0 + _ ≤ _; exact Nat.le_of_eq rfl) (hb hby at_199) (fun _ _ => ⟨rfl, e1, (by decide : 1 + 1 ≤ _), (by decide : 4 + 1 ≤ _)⟩)
    dsimp only [Pt.U, Pt.locs, Pt.cells, Pt.slots] at X3 l3 y3 z3 st3 hQ3
    subst l3 y3 z3
    obtain ⟨rfl, N3q, K3, o3_0, o3_1, o3_2⟩ := hQ3
    have f4_0 := Nat.le_trans f2_0 K3.1
    have f4_1 := A1.keep K3
    have N3 := Fr.app N0 N3q
    refine Wp.back (U' := (T3.setTop (mkF m 202 #[.val (.int p0), .val (.int p1), .val (.long q2), .second, .val (.int (1 : Int32)), .val (.long mm), .second, .val (.long ((144115188075855872 : Int64) / mm)), .second, .val (.long mm), .second, .unset, .unset, .unset, .unset, .unset, .unset, .unset, .unset, .unset, .unset, .unset, .unset, .unset] [(.ref b1)]))) (fun t k => st3.trans k) ?_
    refine Wp.back (U' := (T3.setTop (mkF m 204 #[.val (.int p0), .val (.int p1), .val (.long q2), .second, .val (.int (1 : Int32)), .val (.long mm), .second, .val (.long ((144115188075855872 : Int64) / mm)), .second, .val (.long mm), .second, .val (.ref b1), .unset, .unset, .unset, .unset, .unset, .unset, .unset, .unset, .unset, .unset, .unset, .unset] []))) (fun t k => XS.astore X3.here hx rfl (hb hby at_202) rfl rfl (l' := #[.val (.int p0), .val (.int p1), .val (.long q2), .second, .val (.int (1 : Int32)), .val (.long mm), .second, .val (.long ((144115188075855872 : Int64) / mm)), .second, .val (.long mm), .second, .val (.ref b1), .unset, .unset, .unset, .unset, .unset, .unset, .unset, .unset, .unset, .unset, .unset, .unset]) rfl k) ?_
    have hB := own_bb1 hm
    generalize ((64 : Int32) - (f_lnz (((1 : Int64) * ((mm).toInt32).toInt64) - (1 : Int64)))) = bb at hB o3_2 ⊢
    refine Wp.back (U' := (T3.setTop (mkF m 213 #[.val (.int p0), .val (.int p1), .val (.long q2), .second, .val (.int (1 : Int32)), .val (.long mm), .second, .val (.long ((144115188075855872 : Int64) / mm)), .second, .val (.long mm), .second, .val (.ref b1), .unset, .unset, .unset, .unset, .unset, .unset, .unset, .unset, .unset, .unset, .unset, .unset] [(.long (8 : Int64)), (.ref b1)]))) (fun t k => XS.aload X3.here hx rfl (hb hby at_204) rfl rfl (Jvm.Stand.ldc2J X3 hx hown (mvT hZ (hw _ (List.mem_of_getElem? (i := 30) rfl))) rfl (hb hby at_206) (XS.iload X3.here hx rfl (hb hby at_209) rfl (XS.i2l X3.here hx rfl (hb hby at_211) rfl (XS.lmul X3.here hx rfl (hb hby at_212) rfl k))))) ?_
    obtain ⟨cq5, kq5, q5a, q5b, q5c⟩ := isOf hZ rfl o3_0
    obtain ⟨_, _, ⟨T5, L5, k5, n5⟩, -, X5, ⟨Lc5, hQ5, l5, y5, z5⟩, st5⟩ := X3.virtualBack hx (y := (⟨"com/example/known_leaks/knownleaks/CellPacking", "bytes", "(J)J"⟩ : MethodName)) (z := (⟨"com/example/known_leaks/knownleaks/CellPacking", "bytes", "(J)J"⟩ : MethodName)) hown (mvT hZ (hw _ (List.mem_of_getElem? (i := 31) rfl))) (mvT hZ (hw _ (List.mem_of_getElem? (i := 32) rfl))) (notFace_of_selects (args := #[]) (mvT hZ (hw _ (List.mem_of_getElem? (i := 34) rfl)))) (mvT hZ (hw _ (List.mem_of_getElem? (i := 34) rfl))) (mvT hZ (hw _ (List.mem_of_getElem? (i := 33) rfl))) (by decide) (backOf (W := 0) (rm_be1 l Z a0 hw [] b1 bb T3.heap n0 f4_0 o3_1 o3_2) hZ (hw _ (List.mem_of_getElem? (i := 35) rfl)) (hw _ (List.mem_of_getElem? (i := 4) rfl)) (by decide) (by decide)) q5a q5c (g := (mkF m 213 #[.val (.int p0), .val (.int p1), .val (.long q2), .second, .val (.int (1 : Int32)), .val (.long mm), .second, .val (.long ((144115188075855872 : Int64) / mm)), .second, .val (.long mm), .second, .val (.ref b1), .unset, .unset, .unset, .unset, .unset, .unset, .unset, .unset, .unset, .unset, .unset, .unset] [(.long (8 : Int64)), (.ref b1)])) rfl (by rw [hml]; rfl) (Steps.refl _) (argsL := [(.long (8 : Int64))]) (rest := []) (lenOf pd0_1 rfl) rfl (by show 2 * 0 + _ ≤ _; exact Nat.le_of_eq rfl) (hb hby at_213) (fun _ _ => ⟨rfl, rfl, (by decide : 2 + 0 ≤ _), (by decide : 5 + 0 ≤ _)⟩)
    dsimp only [Pt.U, Pt.locs, Pt.cells, Pt.slots] at X5 l5 y5 z5 st5 hQ5
    subst l5 y5 z5
    obtain ⟨rfl, N5q, K5⟩ := hQ5
    have f6_0 := Nat.le_trans f4_0 K5.1
    have f6_1 := o3_0.keep K5
    have f6_2 := o3_1.keep K5 nin0
    have f6_3 := o3_2.keep K5 nin0
    have N5 := Fr.app N3 N5q
    refine Wp.back (U' := (T5.setTop (mkF m 216 #[.val (.int p0), .val (.int p1), .val (.long q2), .second, .val (.int (1 : Int32)), .val (.long mm), .second, .val (.long ((144115188075855872 : Int64) / mm)), .second, .val (.long mm), .second, .val (.ref b1), .unset, .unset, .unset, .unset, .unset, .unset, .unset, .unset, .unset, .unset, .unset, .unset] [(.long ((((8 : Int64) * (bb).toInt64) + (7 : Int64)) / (8 : Int64)))]))) (fun t k => st5.trans k) ?_
    refine Wp.back (U' := (T5.setTop (mkF m 218 #[.val (.int p0), .val (.int p1), .val (.long q2), .second, .val (.int (1 : Int32)), .val (.long mm), .second, .val (.long ((144115188075855872 : Int64) / mm)), .second, .val (.long mm), .second, .val (.ref b1), .val (.long ((((8 : Int64) * (bb).toInt64) + (7 : Int64)) / (8 : Int64))), .second, .unset, .unset, .unset, .unset, .unset, .unset, .unset, .unset, .unset, .unset] []))) (fun t k => XS.lstore X5.here hx rfl (hb hby at_216) rfl (l' := #[.val (.int p0), .val (.int p1), .val (.long q2), .second, .val (.int (1 : Int32)), .val (.long mm), .second, .val (.long ((144115188075855872 : Int64) / mm)), .second, .val (.long mm), .second, .val (.ref b1), .val (.long ((((8 : Int64) * (bb).toInt64) + (7 : Int64)) / (8 : Int64))), .second, .unset, .unset, .unset, .unset, .unset, .unset, .unset, .unset, .unset, .unset]) rfl k) ?_
    rw [show ((((8 : Int64) * (bb).toInt64) + (7 : Int64)) / (8 : Int64)) = (bb).toInt64 from own_b8 hB.1]
    refine Wp.back (U' := (T5.setTop (mkF m 242 #[.val (.int p0), .val (.int p1), .val (.long q2), .second, .val (.int (1 : Int32)), .val (.long mm), .second, .val (.long ((144115188075855872 : Int64) / mm)), .second, .val (.long mm), .second, .val (.ref b1), .val (.long (bb).toInt64), .second, .val (.long (mm - (1 : Int64))), .second, .unset, .unset, .unset, .unset, .unset, .unset, .unset, .unset] []))) (fun t k => XS.lload X5.here hx rfl (hb hby at_218) rfl (XT.lconstV X5.here hx rfl (1 : Int64) (hb hby at_220) (by decide) (XS.lcmp X5.here hx rfl (hb hby at_221) rfl (XS.ifNo X5.here hx rfl (hb hby at_222) rfl ((if0 _ _).trans (flt (fun q => (own_l1 hB.1) ((lw_lt (bb).toInt64 (1 : Int64)).mp q))).1) (XS.lload X5.here hx rfl (hb hby at_225) rfl (Jvm.Stand.ldc2J X5 hx hown (mvT hZ (hw _ (List.mem_of_getElem? (i := 38) rfl))) rfl (hb hby at_227) (XS.lcmp X5.here hx rfl (hb hby at_230) rfl (XS.ifYes X5.here hx rfl (pc0 := 231) (pc' := 236) rfl (hb hby at_231) rfl ((if0 _ _).trans (flt (fun q => (own_l2 hB.1) ((lw_gt (bb).toInt64 (57 : Int64)).mp q))).2.2.2) (by decide) (by decide) (XS.lload X5.here hx rfl (hb hby at_236) rfl (XT.lconstV X5.here hx rfl (1 : Int64) (hb hby at_238) (by decide) (XS.lsub X5.here hx rfl (hb hby at_239) rfl (XS.lstore X5.here hx rfl (hb hby at_240) rfl (l' := #[.val (.int p0), .val (.int p1), .val (.long q2), .second, .val (.int (1 : Int32)), .val (.long mm), .second, .val (.long ((144115188075855872 : Int64) / mm)), .second, .val (.long mm), .second, .val (.ref b1), .val (.long (bb).toInt64), .second, .val (.long (mm - (1 : Int64))), .second, .unset, .unset, .unset, .unset, .unset, .unset, .unset, .unset]) rfl k)))))))))))) ?_
    refine Wp.back (U' := (T5.setTop (mkF m 260 #[.val (.int p0), .val (.int p1), .val (.long q2), .second, .val (.int (1 : Int32)), .val (.long mm), .second, .val (.long ((144115188075855872 : Int64) / mm)), .second, .val (.long mm), .second, .val (.ref b1), .val (.long (bb).toInt64), .second, .val (.long (mm - (1 : Int64))), .second, .unset, .unset, .unset, .unset, .unset, .unset, .unset, .unset] [(.long ((bb).toInt64 - (1 : Int64))), (.long (1 : Int64)), (.long (mm - (1 : Int64)))]))) (fun t k => XS.lload X5.here hx rfl (hb hby at_242) rfl (XT.lconstV X5.here hx rfl (1 : Int64) (hb hby at_244) (by decide) (XS.lload X5.here hx rfl (hb hby at_245) rfl (XS.l2i X5.here hx rfl (hb hby at_247) rfl (XS.lshl X5.here hx rfl (hb hby at_248) rfl (XS.lcmp X5.here hx rfl (hb hby at_249) rfl (XS.ifNo X5.here hx rfl (hb hby at_250) rfl ((if0 _ _).trans (tlt ((lw_lt (mm - (1 : Int64)) ((1 : Int64) <<< (((bb).toInt64).toInt32 &&& 0x3f).toInt64)).mpr (own_t1 hB))).2.1) (XS.lload X5.here hx rfl (hb hby at_253) rfl (XT.lconstV X5.here hx rfl (1 : Int64) (hb hby at_255) (by decide) (XS.lload X5.here hx rfl (hb hby at_256) rfl (XT.lconstV X5.here hx rfl (1 : Int64) (hb hby at_258) (by decide) (XS.lsub X5.here hx rfl (hb hby at_259) rfl k)))))))))))) ?_
    refine Wp.back (U' := (T5.setTop (mkF m 275 #[.val (.int p0), .val (.int p1), .val (.long q2), .second, .val (.int (1 : Int32)), .val (.long mm), .second, .val (.long ((144115188075855872 : Int64) / mm)), .second, .val (.long mm), .second, .val (.ref b1), .val (.long (bb).toInt64), .second, .val (.long (mm - (1 : Int64))), .second, .val (.long (q2 &&& (72057594037927935 : Int64))), .second, .unset, .unset, .unset, .unset, .unset, .unset] []))) (fun t k => XS.l2i X5.here hx rfl (hb hby at_260) rfl (XS.lshl X5.here hx rfl (hb hby at_261) rfl (XS.lcmp X5.here hx rfl (hb hby at_262) rfl (XS.ifYes X5.here hx rfl (pc0 := 263) (pc' := 268) rfl (hb hby at_263) rfl ((if0 _ _).trans (flt (fun q => (own_t2 hB) ((lw_lt (mm - (1 : Int64)) ((1 : Int64) <<< ((((bb).toInt64 - (1 : Int64))).toInt32 &&& 0x3f).toInt64)).mp q))).2.1) (by decide) (by decide) (XS.lloadN X5.here hx rfl (hb hby at_268) rfl (Jvm.Stand.ldc2J X5 hx hown (mvT hZ (hw _ (List.mem_of_getElem? (i := 39) rfl))) rfl (hb hby at_269) (XS.land X5.here hx rfl (hb hby at_272) rfl (XS.lstore X5.here hx rfl (hb hby at_273) rfl (l' := #[.val (.int p0), .val (.int p1), .val (.long q2), .second, .val (.int (1 : Int32)), .val (.long mm), .second, .val (.long ((144115188075855872 : Int64) / mm)), .second, .val (.long mm), .second, .val (.ref b1), .val (.long (bb).toInt64), .second, .val (.long (mm - (1 : Int64))), .second, .val (.long (q2 &&& (72057594037927935 : Int64))), .second, .unset, .unset, .unset, .unset, .unset, .unset]) rfl k)))))))) ?_
    have hc := own_cl q2
    generalize (q2 &&& (72057594037927935 : Int64)) = cc at hc ⊢
    refine Wp.back (U' := (T5.setTop (mkF m 289 #[.val (.int p0), .val (.int p1), .val (.long q2), .second, .val (.int (1 : Int32)), .val (.long mm), .second, .val (.long ((144115188075855872 : Int64) / mm)), .second, .val (.long mm), .second, .val (.ref b1), .val (.long (bb).toInt64), .second, .val (.long (mm - (1 : Int64))), .second, .val (.long cc), .second, .unset, .unset, .unset, .unset, .unset, .unset] [(.int (lcmpW (cc - (cc / (1 : Int64)) * (1 : Int64)) (0 : Int64))), (.long (cc / (1 : Int64)))]))) (fun t k => XS.lload X5.here hx rfl (hb hby at_275) rfl (XS.iload X5.here hx rfl (hb hby at_277) rfl (XS.i2l X5.here hx rfl (hb hby at_279) rfl (XS.ldiv X5.here hx rfl (hb hby at_280) rfl (by decide) (XS.lload X5.here hx rfl (hb hby at_281) rfl (XS.iload X5.here hx rfl (hb hby at_283) rfl (XS.i2l X5.here hx rfl (hb hby at_285) rfl (XS.lrem X5.here hx rfl (hb hby at_286) rfl (by decide) (XT.lconstV X5.here hx rfl (0 : Int64) (hb hby at_287) (by decide) (XS.lcmp X5.here hx rfl (hb hby at_288) rfl k)))))))))) ?_
    by_cases c289_7 : (cc - (cc / (1 : Int64)) * (1 : Int64)) = (0 : Int64)
    · refine Wp.back (U' := (T5.setTop (mkF m 314 #[.val (.int p0), .val (.int p1), .val (.long q2), .second, .val (.int (1 : Int32)), .val (.long mm), .second, .val (.long ((144115188075855872 : Int64) / mm)), .second, .val (.long mm), .second, .val (.ref b1), .val (.long (bb).toInt64), .second, .val (.long (mm - (1 : Int64))), .second, .val (.long cc), .second, .val (.long ((cc / (1 : Int64)) + (0 : Int64))), .second, .val (.long (((cc / (1 : Int64)) + (0 : Int64)) * (bb).toInt64)), .second, .unset, .unset] [(.long ((((cc / (1 : Int64)) + (0 : Int64)) * (bb).toInt64) / (8 : Int64)))]))) (fun t k => XS.ifYes X5.here hx rfl (pc0 := 289) (pc' := 296) rfl (hb hby at_289) rfl ((if0 _ _).trans (teq ((lw_eq (cc - (cc / (1 : Int64)) * (1 : Int64)) (0 : Int64)).mpr c289_7)).1) (by decide) (by decide) (XT.iconstV X5.here hx rfl (0 : Int32) (hb hby at_296) (by decide) (XS.i2l X5.here hx rfl (hb hby at_297) rfl (XS.ladd X5.here hx rfl (hb hby at_298) rfl (XS.lstore X5.here hx rfl (hb hby at_299) rfl (l' := #[.val (.int p0), .val (.int p1), .val (.long q2), .second, .val (.int (1 : Int32)), .val (.long mm), .second, .val (.long ((144115188075855872 : Int64) / mm)), .second, .val (.long mm), .second, .val (.ref b1), .val (.long (bb).toInt64), .second, .val (.long (mm - (1 : Int64))), .second, .val (.long cc), .second, .val (.long ((cc / (1 : Int64)) + (0 : Int64))), .second, .unset, .unset, .unset, .unset]) rfl (XS.lload X5.here hx rfl (hb hby at_301) rfl (XS.lload X5.here hx rfl (hb hby at_303) rfl (XS.lmul X5.here hx rfl (hb hby at_305) rfl (XS.lstore X5.here hx rfl (hb hby at_306) rfl (l' := #[.val (.int p0), .val (.int p1), .val (.long q2), .second, .val (.int (1 : Int32)), .val (.long mm), .second, .val (.long ((144115188075855872 : Int64) / mm)), .second, .val (.long mm), .second, .val (.ref b1), .val (.long (bb).toInt64), .second, .val (.long (mm - (1 : Int64))), .second, .val (.long cc), .second, .val (.long ((cc / (1 : Int64)) + (0 : Int64))), .second, .val (.long (((cc / (1 : Int64)) + (0 : Int64)) * (bb).toInt64)), .second, .unset, .unset]) rfl (XS.lload X5.here hx rfl (hb hby at_308) rfl (Jvm.Stand.ldc2J X5 hx hown (mvT hZ (hw _ (List.mem_of_getElem? (i := 30) rfl))) rfl (hb hby at_310) (XS.ldiv X5.here hx rfl (hb hby at_313) rfl (by decide) k)))))))))))) ?_
      refine Wp.back (U' := (T5.setTop (mkF m 322 #[.val (.int p0), .val (.int p1), .val (.long q2), .second, .val (.int (1 : Int32)), .val (.long mm), .second, .val (.long ((144115188075855872 : Int64) / mm)), .second, .val (.long mm), .second, .val (.ref b1), .val (.long (bb).toInt64), .second, .val (.long (mm - (1 : Int64))), .second, .val (.long cc), .second, .val (.long ((cc / (1 : Int64)) + (0 : Int64))), .second, .val (.long (((cc / (1 : Int64)) + (0 : Int64)) * (bb).toInt64)), .second, .unset, .unset] [(.int (lcmpW ((((cc / (1 : Int64)) + (0 : Int64)) * (bb).toInt64) - ((((cc / (1 : Int64)) + (0 : Int64)) * (bb).toInt64) / (8 : Int64)) * (8 : Int64)) (0 : Int64))), (.long ((((cc / (1 : Int64)) + (0 : Int64)) * (bb).toInt64) / (8 : Int64)))]))) (fun t k => XS.lload X5.here hx rfl (hb hby at_314) rfl (Jvm.Stand.ldc2J X5 hx hown (mvT hZ (hw _ (List.mem_of_getElem? (i := 30) rfl))) rfl (hb hby at_316) (XS.lrem X5.here hx rfl (hb hby at_319) rfl (by decide) (XT.lconstV X5.here hx rfl (0 : Int64) (hb hby at_320) (by decide) (XS.lcmp X5.here hx rfl (hb hby at_321) rfl k))))) ?_
      by_cases c322_8 : ((((cc / (1 : Int64)) + (0 : Int64)) * (bb).toInt64) - ((((cc / (1 : Int64)) + (0 : Int64)) * (bb).toInt64) / (8 : Int64)) * (8 : Int64)) = (0 : Int64)
      · refine Wp.back (U' := (T5.setTop (mkF m 338 #[.val (.int p0), .val (.int p1), .val (.long q2), .second, .val (.int (1 : Int32)), .val (.long mm), .second, .val (.long ((144115188075855872 : Int64) / mm)), .second, .val (.long mm), .second, .val (.ref b1), .val (.long (bb).toInt64), .second, .val (.long (mm - (1 : Int64))), .second, .val (.long cc), .second, .val (.long ((cc / (1 : Int64)) + (0 : Int64))), .second, .val (.long (((cc / (1 : Int64)) + (0 : Int64)) * (bb).toInt64)), .second, .val (.long (((((cc / (1 : Int64)) + (0 : Int64)) * (bb).toInt64) / (8 : Int64)) + (0 : Int64))), .second] [(.long cc), (.ref b1)]))) (fun t k => XS.ifYes X5.here hx rfl (pc0 := 322) (pc' := 329) rfl (hb hby at_322) rfl ((if0 _ _).trans (teq ((lw_eq ((((cc / (1 : Int64)) + (0 : Int64)) * (bb).toInt64) - ((((cc / (1 : Int64)) + (0 : Int64)) * (bb).toInt64) / (8 : Int64)) * (8 : Int64)) (0 : Int64)).mpr c322_8)).1) (by decide) (by decide) (XT.iconstV X5.here hx rfl (0 : Int32) (hb hby at_329) (by decide) (XS.i2l X5.here hx rfl (hb hby at_330) rfl (XS.ladd X5.here hx rfl (hb hby at_331) rfl (XS.lstore X5.here hx rfl (hb hby at_332) rfl (l' := #[.val (.int p0), .val (.int p1), .val (.long q2), .second, .val (.int (1 : Int32)), .val (.long mm), .second, .val (.long ((144115188075855872 : Int64) / mm)), .second, .val (.long mm), .second, .val (.ref b1), .val (.long (bb).toInt64), .second, .val (.long (mm - (1 : Int64))), .second, .val (.long cc), .second, .val (.long ((cc / (1 : Int64)) + (0 : Int64))), .second, .val (.long (((cc / (1 : Int64)) + (0 : Int64)) * (bb).toInt64)), .second, .val (.long (((((cc / (1 : Int64)) + (0 : Int64)) * (bb).toInt64) / (8 : Int64)) + (0 : Int64))), .second]) rfl (XS.aload X5.here hx rfl (hb hby at_334) rfl rfl (XS.lload X5.here hx rfl (hb hby at_336) rfl k))))))) ?_
        obtain ⟨cq9, kq9, q9a, q9b, q9c⟩ := isOf hZ rfl f6_1
        obtain ⟨_, _, ⟨T9, L9, k9, n9⟩, -, X9, ⟨Lc9, hQ9, l9, y9, z9⟩, st9⟩ := X5.virtualBack hx (y := (⟨"com/example/known_leaks/knownleaks/CellPacking", "bytes", "(J)J"⟩ : MethodName)) (z := (⟨"com/example/known_leaks/knownleaks/CellPacking", "bytes", "(J)J"⟩ : MethodName)) hown (mvT hZ (hw _ (List.mem_of_getElem? (i := 31) rfl))) (mvT hZ (hw _ (List.mem_of_getElem? (i := 32) rfl))) (notFace_of_selects (args := #[]) (mvT hZ (hw _ (List.mem_of_getElem? (i := 34) rfl)))) (mvT hZ (hw _ (List.mem_of_getElem? (i := 34) rfl))) (mvT hZ (hw _ (List.mem_of_getElem? (i := 33) rfl))) (by decide) (backOf (W := 0) (rm_by1 l Z a0 hw [] b1 cc bb T5.heap n0 f6_0 f6_2 f6_3) hZ (hw _ (List.mem_of_getElem? (i := 35) rfl)) (hw _ (List.mem_of_getElem? (i := 4) rfl)) (by decide) (by decide)) q9a q9c (g := (mkF m 338 #[.val (.int p0), .val (.int p1), .val (.long q2), .second, .val (.int (1 : Int32)), .val (.long mm), .second, .val (.long ((144115188075855872 : Int64) / mm)), .second, .val (.long mm), .second, .val (.ref b1), .val (.long (bb).toInt64), .second, .val (.long (mm - (1 : Int64))), .second, .val (.long cc), .second, .val (.long ((cc / (1 : Int64)) + (0 : Int64))), .second, .val (.long (((cc / (1 : Int64)) + (0 : Int64)) * (bb).toInt64)), .second, .val (.long (((((cc / (1 : Int64)) + (0 : Int64)) * (bb).toInt64) / (8 : Int64)) + (0 : Int64))), .second] [(.long cc), (.ref b1)])) rfl (by rw [hml]; rfl) (Steps.refl _) (argsL := [(.long cc)]) (rest := []) (lenOf pd0_1 rfl) rfl (by show 2 * 0 + _ ≤ _; exact Nat.le_of_eq rfl) (hb hby at_338) (fun _ _ => ⟨rfl, rfl, (by decide : 2 + 0 ≤ _), (by decide : 5 + 0 ≤ _)⟩)
        dsimp only [Pt.U, Pt.locs, Pt.cells, Pt.slots] at X9 l9 y9 z9 st9 hQ9
        subst l9 y9 z9
        obtain ⟨rfl, N9q, K9⟩ := hQ9
        have f10_0 := Nat.le_trans f6_0 K9.1
        have f10_1 := f6_1.keep K9
        have f10_2 := f6_2.keep K9 nin0
        have f10_3 := f6_3.keep K9 nin0
        have N9 := Fr.app N5 N9q
        refine Wp.back (U' := (T9.setTop (mkF m 341 #[.val (.int p0), .val (.int p1), .val (.long q2), .second, .val (.int (1 : Int32)), .val (.long mm), .second, .val (.long ((144115188075855872 : Int64) / mm)), .second, .val (.long mm), .second, .val (.ref b1), .val (.long (bb).toInt64), .second, .val (.long (mm - (1 : Int64))), .second, .val (.long cc), .second, .val (.long ((cc / (1 : Int64)) + (0 : Int64))), .second, .val (.long (((cc / (1 : Int64)) + (0 : Int64)) * (bb).toInt64)), .second, .val (.long (((((cc / (1 : Int64)) + (0 : Int64)) * (bb).toInt64) / (8 : Int64)) + (0 : Int64))), .second] [(.long ((((((cc + (1 : Int64)) - (1 : Int64)) / (1 : Int64)) * (bb).toInt64) + (7 : Int64)) / (8 : Int64)))]))) (fun t k => st9.trans k) ?_
        refine Wp.back (U' := (T9.setTop (mkF m 352 #[.val (.int p0), .val (.int p1), .val (.long q2), .second, .val (.int (1 : Int32)), .val (.long mm), .second, .val (.long ((144115188075855872 : Int64) / mm)), .second, .val (.long mm), .second, .val (.ref b1), .val (.long (bb).toInt64), .second, .val (.long (mm - (1 : Int64))), .second, .val (.long cc), .second, .val (.long ((cc / (1 : Int64)) + (0 : Int64))), .second, .val (.long (((cc / (1 : Int64)) + (0 : Int64)) * (bb).toInt64)), .second, .val (.long (((((cc / (1 : Int64)) + (0 : Int64)) * (bb).toInt64) / (8 : Int64)) + (0 : Int64))), .second] [(.int (1 : Int32))]))) (fun t k => XS.lload X9.here hx rfl (hb hby at_341) rfl (XS.lcmp X9.here hx rfl (hb hby at_343) rfl (XS.ifNo X9.here hx rfl (hb hby at_344) rfl ((if0 _ _).trans (teq ((lw_eq ((((((cc + (1 : Int64)) - (1 : Int64)) / (1 : Int64)) * (bb).toInt64) + (7 : Int64)) / (8 : Int64)) (((((cc / (1 : Int64)) + (0 : Int64)) * (bb).toInt64) / (8 : Int64)) + (0 : Int64))).mpr (own_f1_tt hB.1 hc c289_7 c322_8))).2) (XT.iconstV X9.here hx rfl (1 : Int32) (hb hby at_347) (by decide) (XS.goto X9.here hx rfl (pc0 := 348) (pc' := 352) rfl (hb hby at_348) (by decide) (by decide) k))))) ?_
        obtain ⟨fs, hr, hrun, hended, hW, hsame⟩ := X9.leave (v := (some (.int (1 : Int32)))) (fun h => by rw [hret] at h; cases h)
        refine Wp.done (retN X9 hx (t := .boolean) hret (by simp) (hb hby at_352) hr) hrun hended ⟨_, _, rfl, ?_, ⟨_, rfl⟩, hW, hsame.mono (by decide) (by decide)⟩
        show QL n0 _ T9.heap _
        exact ⟨rfl, N9⟩
      · refine Wp.back (U' := (T5.setTop (mkF m 338 #[.val (.int p0), .val (.int p1), .val (.long q2), .second, .val (.int (1 : Int32)), .val (.long mm), .second, .val (.long ((144115188075855872 : Int64) / mm)), .second, .val (.long mm), .second, .val (.ref b1), .val (.long (bb).toInt64), .second, .val (.long (mm - (1 : Int64))), .second, .val (.long cc), .second, .val (.long ((cc / (1 : Int64)) + (0 : Int64))), .second, .val (.long (((cc / (1 : Int64)) + (0 : Int64)) * (bb).toInt64)), .second, .val (.long (((((cc / (1 : Int64)) + (0 : Int64)) * (bb).toInt64) / (8 : Int64)) + (1 : Int64))), .second] [(.long cc), (.ref b1)]))) (fun t k => XS.ifNo X5.here hx rfl (hb hby at_322) rfl ((if0 _ _).trans (feq (fun q => c322_8 ((lw_eq ((((cc / (1 : Int64)) + (0 : Int64)) * (bb).toInt64) - ((((cc / (1 : Int64)) + (0 : Int64)) * (bb).toInt64) / (8 : Int64)) * (8 : Int64)) (0 : Int64)).mp q))).1) (XT.iconstV X5.here hx rfl (1 : Int32) (hb hby at_325) (by decide) (XS.goto X5.here hx rfl (pc0 := 326) (pc' := 330) rfl (hb hby at_326) (by decide) (by decide) (XS.i2l X5.here hx rfl (hb hby at_330) rfl (XS.ladd X5.here hx rfl (hb hby at_331) rfl (XS.lstore X5.here hx rfl (hb hby at_332) rfl (l' := #[.val (.int p0), .val (.int p1), .val (.long q2), .second, .val (.int (1 : Int32)), .val (.long mm), .second, .val (.long ((144115188075855872 : Int64) / mm)), .second, .val (.long mm), .second, .val (.ref b1), .val (.long (bb).toInt64), .second, .val (.long (mm - (1 : Int64))), .second, .val (.long cc), .second, .val (.long ((cc / (1 : Int64)) + (0 : Int64))), .second, .val (.long (((cc / (1 : Int64)) + (0 : Int64)) * (bb).toInt64)), .second, .val (.long (((((cc / (1 : Int64)) + (0 : Int64)) * (bb).toInt64) / (8 : Int64)) + (1 : Int64))), .second]) rfl (XS.aload X5.here hx rfl (hb hby at_334) rfl rfl (XS.lload X5.here hx rfl (hb hby at_336) rfl k)))))))) ?_
        obtain ⟨cq11, kq11, q11a, q11b, q11c⟩ := isOf hZ rfl f6_1
        obtain ⟨_, _, ⟨T11, L11, k11, n11⟩, -, X11, ⟨Lc11, hQ11, l11, y11, z11⟩, st11⟩ := X5.virtualBack hx (y := (⟨"com/example/known_leaks/knownleaks/CellPacking", "bytes", "(J)J"⟩ : MethodName)) (z := (⟨"com/example/known_leaks/knownleaks/CellPacking", "bytes", "(J)J"⟩ : MethodName)) hown (mvT hZ (hw _ (List.mem_of_getElem? (i := 31) rfl))) (mvT hZ (hw _ (List.mem_of_getElem? (i := 32) rfl))) (notFace_of_selects (args := #[]) (mvT hZ (hw _ (List.mem_of_getElem? (i := 34) rfl)))) (mvT hZ (hw _ (List.mem_of_getElem? (i := 34) rfl))) (mvT hZ (hw _ (List.mem_of_getElem? (i := 33) rfl))) (by decide) (backOf (W := 0) (rm_by1 l Z a0 hw [] b1 cc bb T5.heap n0 f6_0 f6_2 f6_3) hZ (hw _ (List.mem_of_getElem? (i := 35) rfl)) (hw _ (List.mem_of_getElem? (i := 4) rfl)) (by decide) (by decide)) q11a q11c (g := (mkF m 338 #[.val (.int p0), .val (.int p1), .val (.long q2), .second, .val (.int (1 : Int32)), .val (.long mm), .second, .val (.long ((144115188075855872 : Int64) / mm)), .second, .val (.long mm), .second, .val (.ref b1), .val (.long (bb).toInt64), .second, .val (.long (mm - (1 : Int64))), .second, .val (.long cc), .second, .val (.long ((cc / (1 : Int64)) + (0 : Int64))), .second, .val (.long (((cc / (1 : Int64)) + (0 : Int64)) * (bb).toInt64)), .second, .val (.long (((((cc / (1 : Int64)) + (0 : Int64)) * (bb).toInt64) / (8 : Int64)) + (1 : Int64))), .second] [(.long cc), (.ref b1)])) rfl (by rw [hml]; rfl) (Steps.refl _) (argsL := [(.long cc)]) (rest := []) (lenOf pd0_1 rfl) rfl (by show 2 * 0 + _ ≤ _; exact Nat.le_of_eq rfl) (hb hby at_338) (fun _ _ => ⟨rfl, rfl, (by decide : 2 + 0 ≤ _), (by decide : 5 + 0 ≤ _)⟩)
        dsimp only [Pt.U, Pt.locs, Pt.cells, Pt.slots] at X11 l11 y11 z11 st11 hQ11
        subst l11 y11 z11
        obtain ⟨rfl, N11q, K11⟩ := hQ11
        have f12_0 := Nat.le_trans f6_0 K11.1
        have f12_1 := f6_1.keep K11
        have f12_2 := f6_2.keep K11 nin0
        have f12_3 := f6_3.keep K11 nin0
        have N11 := Fr.app N5 N11q
        refine Wp.back (U' := (T11.setTop (mkF m 341 #[.val (.int p0), .val (.int p1), .val (.long q2), .second, .val (.int (1 : Int32)), .val (.long mm), .second, .val (.long ((144115188075855872 : Int64) / mm)), .second, .val (.long mm), .second, .val (.ref b1), .val (.long (bb).toInt64), .second, .val (.long (mm - (1 : Int64))), .second, .val (.long cc), .second, .val (.long ((cc / (1 : Int64)) + (0 : Int64))), .second, .val (.long (((cc / (1 : Int64)) + (0 : Int64)) * (bb).toInt64)), .second, .val (.long (((((cc / (1 : Int64)) + (0 : Int64)) * (bb).toInt64) / (8 : Int64)) + (1 : Int64))), .second] [(.long ((((((cc + (1 : Int64)) - (1 : Int64)) / (1 : Int64)) * (bb).toInt64) + (7 : Int64)) / (8 : Int64)))]))) (fun t k => st11.trans k) ?_
        refine Wp.back (U' := (T11.setTop (mkF m 352 #[.val (.int p0), .val (.int p1), .val (.long q2), .second, .val (.int (1 : Int32)), .val (.long mm), .second, .val (.long ((144115188075855872 : Int64) / mm)), .second, .val (.long mm), .second, .val (.ref b1), .val (.long (bb).toInt64), .second, .val (.long (mm - (1 : Int64))), .second, .val (.long cc), .second, .val (.long ((cc / (1 : Int64)) + (0 : Int64))), .second, .val (.long (((cc / (1 : Int64)) + (0 : Int64)) * (bb).toInt64)), .second, .val (.long (((((cc / (1 : Int64)) + (0 : Int64)) * (bb).toInt64) / (8 : Int64)) + (1 : Int64))), .second] [(.int (1 : Int32))]))) (fun t k => XS.lload X11.here hx rfl (hb hby at_341) rfl (XS.lcmp X11.here hx rfl (hb hby at_343) rfl (XS.ifNo X11.here hx rfl (hb hby at_344) rfl ((if0 _ _).trans (teq ((lw_eq ((((((cc + (1 : Int64)) - (1 : Int64)) / (1 : Int64)) * (bb).toInt64) + (7 : Int64)) / (8 : Int64)) (((((cc / (1 : Int64)) + (0 : Int64)) * (bb).toInt64) / (8 : Int64)) + (1 : Int64))).mpr (own_f1_tf hB.1 hc c289_7 c322_8))).2) (XT.iconstV X11.here hx rfl (1 : Int32) (hb hby at_347) (by decide) (XS.goto X11.here hx rfl (pc0 := 348) (pc' := 352) rfl (hb hby at_348) (by decide) (by decide) k))))) ?_
        obtain ⟨fs, hr, hrun, hended, hW, hsame⟩ := X11.leave (v := (some (.int (1 : Int32)))) (fun h => by rw [hret] at h; cases h)
        refine Wp.done (retN X11 hx (t := .boolean) hret (by simp) (hb hby at_352) hr) hrun hended ⟨_, _, rfl, ?_, ⟨_, rfl⟩, hW, hsame.mono (by decide) (by decide)⟩
        show QL n0 _ T11.heap _
        exact ⟨rfl, N11⟩
    · refine Wp.back (U' := (T5.setTop (mkF m 313 #[.val (.int p0), .val (.int p1), .val (.long q2), .second, .val (.int (1 : Int32)), .val (.long mm), .second, .val (.long ((144115188075855872 : Int64) / mm)), .second, .val (.long mm), .second, .val (.ref b1), .val (.long (bb).toInt64), .second, .val (.long (mm - (1 : Int64))), .second, .val (.long cc), .second, .val (.long ((cc / (1 : Int64)) + (1 : Int64))), .second, .val (.long (((cc / (1 : Int64)) + (1 : Int64)) * (bb).toInt64)), .second, .unset, .unset] [(.long (8 : Int64)), (.long (((cc / (1 : Int64)) + (1 : Int64)) * (bb).toInt64))]))) (fun t k => XS.ifNo X5.here hx rfl (hb hby at_289) rfl ((if0 _ _).trans (feq (fun q => c289_7 ((lw_eq (cc - (cc / (1 : Int64)) * (1 : Int64)) (0 : Int64)).mp q))).1) (XT.iconstV X5.here hx rfl (1 : Int32) (hb hby at_292) (by decide) (XS.goto X5.here hx rfl (pc0 := 293) (pc' := 297) rfl (hb hby at_293) (by decide) (by decide) (XS.i2l X5.here hx rfl (hb hby at_297) rfl (XS.ladd X5.here hx rfl (hb hby at_298) rfl (XS.lstore X5.here hx rfl (hb hby at_299) rfl (l' := #[.val (.int p0), .val (.int p1), .val (.long q2), .second, .val (.int (1 : Int32)), .val (.long mm), .second, .val (.long ((144115188075855872 : Int64) / mm)), .second, .val (.long mm), .second, .val (.ref b1), .val (.long (bb).toInt64), .second, .val (.long (mm - (1 : Int64))), .second, .val (.long cc), .second, .val (.long ((cc / (1 : Int64)) + (1 : Int64))), .second, .unset, .unset, .unset, .unset]) rfl (XS.lload X5.here hx rfl (hb hby at_301) rfl (XS.lload X5.here hx rfl (hb hby at_303) rfl (XS.lmul X5.here hx rfl (hb hby at_305) rfl (XS.lstore X5.here hx rfl (hb hby at_306) rfl (l' := #[.val (.int p0), .val (.int p1), .val (.long q2), .second, .val (.int (1 : Int32)), .val (.long mm), .second, .val (.long ((144115188075855872 : Int64) / mm)), .second, .val (.long mm), .second, .val (.ref b1), .val (.long (bb).toInt64), .second, .val (.long (mm - (1 : Int64))), .second, .val (.long cc), .second, .val (.long ((cc / (1 : Int64)) + (1 : Int64))), .second, .val (.long (((cc / (1 : Int64)) + (1 : Int64)) * (bb).toInt64)), .second, .unset, .unset]) rfl (XS.lload X5.here hx rfl (hb hby at_308) rfl (Jvm.Stand.ldc2J X5 hx hown (mvT hZ (hw _ (List.mem_of_getElem? (i := 30) rfl))) rfl (hb hby at_310) k)))))))))))) ?_
      refine Wp.back (U' := (T5.setTop (mkF m 322 #[.val (.int p0), .val (.int p1), .val (.long q2), .second, .val (.int (1 : Int32)), .val (.long mm), .second, .val (.long ((144115188075855872 : Int64) / mm)), .second, .val (.long mm), .second, .val (.ref b1), .val (.long (bb).toInt64), .second, .val (.long (mm - (1 : Int64))), .second, .val (.long cc), .second, .val (.long ((cc / (1 : Int64)) + (1 : Int64))), .second, .val (.long (((cc / (1 : Int64)) + (1 : Int64)) * (bb).toInt64)), .second, .unset, .unset] [(.int (lcmpW ((((cc / (1 : Int64)) + (1 : Int64)) * (bb).toInt64) - ((((cc / (1 : Int64)) + (1 : Int64)) * (bb).toInt64) / (8 : Int64)) * (8 : Int64)) (0 : Int64))), (.long ((((cc / (1 : Int64)) + (1 : Int64)) * (bb).toInt64) / (8 : Int64)))]))) (fun t k => XS.ldiv X5.here hx rfl (hb hby at_313) rfl (by decide) (XS.lload X5.here hx rfl (hb hby at_314) rfl (Jvm.Stand.ldc2J X5 hx hown (mvT hZ (hw _ (List.mem_of_getElem? (i := 30) rfl))) rfl (hb hby at_316) (XS.lrem X5.here hx rfl (hb hby at_319) rfl (by decide) (XT.lconstV X5.here hx rfl (0 : Int64) (hb hby at_320) (by decide) (XS.lcmp X5.here hx rfl (hb hby at_321) rfl k)))))) ?_
      by_cases c322_13 : ((((cc / (1 : Int64)) + (1 : Int64)) * (bb).toInt64) - ((((cc / (1 : Int64)) + (1 : Int64)) * (bb).toInt64) / (8 : Int64)) * (8 : Int64)) = (0 : Int64)
      · refine Wp.back (U' := (T5.setTop (mkF m 338 #[.val (.int p0), .val (.int p1), .val (.long q2), .second, .val (.int (1 : Int32)), .val (.long mm), .second, .val (.long ((144115188075855872 : Int64) / mm)), .second, .val (.long mm), .second, .val (.ref b1), .val (.long (bb).toInt64), .second, .val (.long (mm - (1 : Int64))), .second, .val (.long cc), .second, .val (.long ((cc / (1 : Int64)) + (1 : Int64))), .second, .val (.long (((cc / (1 : Int64)) + (1 : Int64)) * (bb).toInt64)), .second, .val (.long (((((cc / (1 : Int64)) + (1 : Int64)) * (bb).toInt64) / (8 : Int64)) + (0 : Int64))), .second] [(.long cc), (.ref b1)]))) (fun t k => XS.ifYes X5.here hx rfl (pc0 := 322) (pc' := 329) rfl (hb hby at_322) rfl ((if0 _ _).trans (teq ((lw_eq ((((cc / (1 : Int64)) + (1 : Int64)) * (bb).toInt64) - ((((cc / (1 : Int64)) + (1 : Int64)) * (bb).toInt64) / (8 : Int64)) * (8 : Int64)) (0 : Int64)).mpr c322_13)).1) (by decide) (by decide) (XT.iconstV X5.here hx rfl (0 : Int32) (hb hby at_329) (by decide) (XS.i2l X5.here hx rfl (hb hby at_330) rfl (XS.ladd X5.here hx rfl (hb hby at_331) rfl (XS.lstore X5.here hx rfl (hb hby at_332) rfl (l' := #[.val (.int p0), .val (.int p1), .val (.long q2), .second, .val (.int (1 : Int32)), .val (.long mm), .second, .val (.long ((144115188075855872 : Int64) / mm)), .second, .val (.long mm), .second, .val (.ref b1), .val (.long (bb).toInt64), .second, .val (.long (mm - (1 : Int64))), .second, .val (.long cc), .second, .val (.long ((cc / (1 : Int64)) + (1 : Int64))), .second, .val (.long (((cc / (1 : Int64)) + (1 : Int64)) * (bb).toInt64)), .second, .val (.long (((((cc / (1 : Int64)) + (1 : Int64)) * (bb).toInt64) / (8 : Int64)) + (0 : Int64))), .second]) rfl (XS.aload X5.here hx rfl (hb hby at_334) rfl rfl (XS.lload X5.here hx rfl (hb hby at_336) rfl k))))))) ?_
        obtain ⟨cq14, kq14, q14a, q14b, q14c⟩ := isOf hZ rfl f6_1
        obtain ⟨_, _, ⟨T14, L14, k14, n14⟩, -, X14, ⟨Lc14, hQ14, l14, y14, z14⟩, st14⟩ := X5.virtualBack hx (y := (⟨"com/example/known_leaks/knownleaks/CellPacking", "bytes", "(J)J"⟩ : MethodName)) (z := (⟨"com/example/known_leaks/knownleaks/CellPacking", "bytes", "(J)J"⟩ : MethodName)) hown (mvT hZ (hw _ (List.mem_of_getElem? (i := 31) rfl))) (mvT hZ (hw _ (List.mem_of_getElem? (i := 32) rfl))) (notFace_of_selects (args := #[]) (mvT hZ (hw _ (List.mem_of_getElem? (i := 34) rfl)))) (mvT hZ (hw _ (List.mem_of_getElem? (i := 34) rfl))) (mvT hZ (hw _ (List.mem_of_getElem? (i := 33) rfl))) (by decide) (backOf (W := 0) (rm_by1 l Z a0 hw [] b1 cc bb T5.heap n0 f6_0 f6_2 f6_3) hZ (hw _ (List.mem_of_getElem? (i := 35) rfl)) (hw _ (List.mem_of_getElem? (i := 4) rfl)) (by decide) (by decide)) q14a q14c (g := (mkF m 338 #[.val (.int p0), .val (.int p1), .val (.long q2), .second, .val (.int (1 : Int32)), .val (.long mm), .second, .val (.long ((144115188075855872 : Int64) / mm)), .second, .val (.long mm), .second, .val (.ref b1), .val (.long (bb).toInt64), .second, .val (.long (mm - (1 : Int64))), .second, .val (.long cc), .second, .val (.long ((cc / (1 : Int64)) + (1 : Int64))), .second, .val (.long (((cc / (1 : Int64)) + (1 : Int64)) * (bb).toInt64)), .second, .val (.long (((((cc / (1 : Int64)) + (1 : Int64)) * (bb).toInt64) / (8 : Int64)) + (0 : Int64))), .second] [(.long cc), (.ref b1)])) rfl (by rw [hml]; rfl) (Steps.refl _) (argsL := [(.long cc)]) (rest := []) (lenOf pd0_1 rfl) rfl (by show 2 * 0 + _ ≤ _; exact Nat.le_of_eq rfl) (hb hby at_338) (fun _ _ => ⟨rfl, rfl, (by decide : 2 + 0 ≤ _), (by decide : 5 + 0 ≤ _)⟩)
        dsimp only [Pt.U, Pt.locs, Pt.cells, Pt.slots] at X14 l14 y14 z14 st14 hQ14
        subst l14 y14 z14
        obtain ⟨rfl, N14q, K14⟩ := hQ14
        have f15_0 := Nat.le_trans f6_0 K14.1
        have f15_1 := f6_1.keep K14
        have f15_2 := f6_2.keep K14 nin0
        have f15_3 := f6_3.keep K14 nin0
        have N14 := Fr.app N5 N14q
        refine Wp.back (U' := (T14.setTop (mkF m 341 #[.val (.int p0), .val (.int p1), .val (.long q2), .second, .val (.int (1 : Int32)), .val (.long mm), .second, .val (.long ((144115188075855872 : Int64) / mm)), .second, .val (.long mm), .second, .val (.ref b1), .val (.long (bb).toInt64), .second, .val (.long (mm - (1 : Int64))), .second, .val (.long cc), .second, .val (.long ((cc / (1 : Int64)) + (1 : Int64))), .second, .val (.long (((cc / (1 : Int64)) + (1 : Int64)) * (bb).toInt64)), .second, .val (.long (((((cc / (1 : Int64)) + (1 : Int64)) * (bb).toInt64) / (8 : Int64)) + (0 : Int64))), .second] [(.long ((((((cc + (1 : Int64)) - (1 : Int64)) / (1 : Int64)) * (bb).toInt64) + (7 : Int64)) / (8 : Int64)))]))) (fun t k => st14.trans k) ?_
        refine Wp.back (U' := (T14.setTop (mkF m 352 #[.val (.int p0), .val (.int p1), .val (.long q2), .second, .val (.int (1 : Int32)), .val (.long mm), .second, .val (.long ((144115188075855872 : Int64) / mm)), .second, .val (.long mm), .second, .val (.ref b1), .val (.long (bb).toInt64), .second, .val (.long (mm - (1 : Int64))), .second, .val (.long cc), .second, .val (.long ((cc / (1 : Int64)) + (1 : Int64))), .second, .val (.long (((cc / (1 : Int64)) + (1 : Int64)) * (bb).toInt64)), .second, .val (.long (((((cc / (1 : Int64)) + (1 : Int64)) * (bb).toInt64) / (8 : Int64)) + (0 : Int64))), .second] [(.int (1 : Int32))]))) (fun t k => XS.lload X14.here hx rfl (hb hby at_341) rfl (XS.lcmp X14.here hx rfl (hb hby at_343) rfl (XS.ifNo X14.here hx rfl (hb hby at_344) rfl ((if0 _ _).trans (teq ((lw_eq ((((((cc + (1 : Int64)) - (1 : Int64)) / (1 : Int64)) * (bb).toInt64) + (7 : Int64)) / (8 : Int64)) (((((cc / (1 : Int64)) + (1 : Int64)) * (bb).toInt64) / (8 : Int64)) + (0 : Int64))).mpr (own_f1_ft hB.1 hc c289_7 c322_13))).2) (XT.iconstV X14.here hx rfl (1 : Int32) (hb hby at_347) (by decide) (XS.goto X14.here hx rfl (pc0 := 348) (pc' := 352) rfl (hb hby at_348) (by decide) (by decide) k))))) ?_
        obtain ⟨fs, hr, hrun, hended, hW, hsame⟩ := X14.leave (v := (some (.int (1 : Int32)))) (fun h => by rw [hret] at h; cases h)
        refine Wp.done (retN X14 hx (t := .boolean) hret (by simp) (hb hby at_352) hr) hrun hended ⟨_, _, rfl, ?_, ⟨_, rfl⟩, hW, hsame.mono (by decide) (by decide)⟩
        show QL n0 _ T14.heap _
        exact ⟨rfl, N14⟩
      · refine Wp.back (U' := (T5.setTop (mkF m 338 #[.val (.int p0), .val (.int p1), .val (.long q2), .second, .val (.int (1 : Int32)), .val (.long mm), .second, .val (.long ((144115188075855872 : Int64) / mm)), .second, .val (.long mm), .second, .val (.ref b1), .val (.long (bb).toInt64), .second, .val (.long (mm - (1 : Int64))), .second, .val (.long cc), .second, .val (.long ((cc / (1 : Int64)) + (1 : Int64))), .second, .val (.long (((cc / (1 : Int64)) + (1 : Int64)) * (bb).toInt64)), .second, .val (.long (((((cc / (1 : Int64)) + (1 : Int64)) * (bb).toInt64) / (8 : Int64)) + (1 : Int64))), .second] [(.long cc), (.ref b1)]))) (fun t k => XS.ifNo X5.here hx rfl (hb hby at_322) rfl ((if0 _ _).trans (feq (fun q => c322_13 ((lw_eq ((((cc / (1 : Int64)) + (1 : Int64)) * (bb).toInt64) - ((((cc / (1 : Int64)) + (1 : Int64)) * (bb).toInt64) / (8 : Int64)) * (8 : Int64)) (0 : Int64)).mp q))).1) (XT.iconstV X5.here hx rfl (1 : Int32) (hb hby at_325) (by decide) (XS.goto X5.here hx rfl (pc0 := 326) (pc' := 330) rfl (hb hby at_326) (by decide) (by decide) (XS.i2l X5.here hx rfl (hb hby at_330) rfl (XS.ladd X5.here hx rfl (hb hby at_331) rfl (XS.lstore X5.here hx rfl (hb hby at_332) rfl (l' := #[.val (.int p0), .val (.int p1), .val (.long q2), .second, .val (.int (1 : Int32)), .val (.long mm), .second, .val (.long ((144115188075855872 : Int64) / mm)), .second, .val (.long mm), .second, .val (.ref b1), .val (.long (bb).toInt64), .second, .val (.long (mm - (1 : Int64))), .second, .val (.long cc), .second, .val (.long ((cc / (1 : Int64)) + (1 : Int64))), .second, .val (.long (((cc / (1 : Int64)) + (1 : Int64)) * (bb).toInt64)), .second, .val (.long (((((cc / (1 : Int64)) + (1 : Int64)) * (bb).toInt64) / (8 : Int64)) + (1 : Int64))), .second]) rfl (XS.aload X5.here hx rfl (hb hby at_334) rfl rfl (XS.lload X5.here hx rfl (hb hby at_336) rfl k)))))))) ?_
        obtain ⟨cq16, kq16, q16a, q16b, q16c⟩ := isOf hZ rfl f6_1
        obtain ⟨_, _, ⟨T16, L16, k16, n16⟩, -, X16, ⟨Lc16, hQ16, l16, y16, z16⟩, st16⟩ := X5.virtualBack hx (y := (⟨"com/example/known_leaks/knownleaks/CellPacking", "bytes", "(J)J"⟩ : MethodName)) (z := (⟨"com/example/known_leaks/knownleaks/CellPacking", "bytes", "(J)J"⟩ : MethodName)) hown (mvT hZ (hw _ (List.mem_of_getElem? (i := 31) rfl))) (mvT hZ (hw _ (List.mem_of_getElem? (i := 32) rfl))) (notFace_of_selects (args := #[]) (mvT hZ (hw _ (List.mem_of_getElem? (i := 34) rfl)))) (mvT hZ (hw _ (List.mem_of_getElem? (i := 34) rfl))) (mvT hZ (hw _ (List.mem_of_getElem? (i := 33) rfl))) (by decide) (backOf (W := 0) (rm_by1 l Z a0 hw [] b1 cc bb T5.heap n0 f6_0 f6_2 f6_3) hZ (hw _ (List.mem_of_getElem? (i := 35) rfl)) (hw _ (List.mem_of_getElem? (i := 4) rfl)) (by decide) (by decide)) q16a q16c (g := (mkF m 338 #[.val (.int p0), .val (.int p1), .val (.long q2), .second, .val (.int (1 : Int32)), .val (.long mm), .second, .val (.long ((144115188075855872 : Int64) / mm)), .second, .val (.long mm), .second, .val (.ref b1), .val (.long (bb).toInt64), .second, .val (.long (mm - (1 : Int64))), .second, .val (.long cc), .second, .val (.long ((cc / (1 : Int64)) + (1 : Int64))), .second, .val (.long (((cc / (1 : Int64)) + (1 : Int64)) * (bb).toInt64)), .second, .val (.long (((((cc / (1 : Int64)) + (1 : Int64)) * (bb).toInt64) / (8 : Int64)) + (1 : Int64))), .second] [(.long cc), (.ref b1)])) rfl (by rw [hml]; rfl) (Steps.refl _) (argsL := [(.long cc)]) (rest := []) (lenOf pd0_1 rfl) rfl (by show 2 * 0 + _ ≤ _; exact Nat.le_of_eq rfl) (hb hby at_338) (fun _ _ => ⟨rfl, rfl, (by decide : 2 + 0 ≤ _), (by decide : 5 + 0 ≤ _)⟩)
        dsimp only [Pt.U, Pt.locs, Pt.cells, Pt.slots] at X16 l16 y16 z16 st16 hQ16
        subst l16 y16 z16
        obtain ⟨rfl, N16q, K16⟩ := hQ16
        have f17_0 := Nat.le_trans f6_0 K16.1
        have f17_1 := f6_1.keep K16
        have f17_2 := f6_2.keep K16 nin0
        have f17_3 := f6_3.keep K16 nin0
        have N16 := Fr.app N5 N16q
        refine Wp.back (U' := (T16.setTop (mkF m 341 #[.val (.int p0), .val (.int p1), .val (.long q2), .second, .val (.int (1 : Int32)), .val (.long mm), .second, .val (.long ((144115188075855872 : Int64) / mm)), .second, .val (.long mm), .second, .val (.ref b1), .val (.long (bb).toInt64), .second, .val (.long (mm - (1 : Int64))), .second, .val (.long cc), .second, .val (.long ((cc / (1 : Int64)) + (1 : Int64))), .second, .val (.long (((cc / (1 : Int64)) + (1 : Int64)) * (bb).toInt64)), .second, .val (.long (((((cc / (1 : Int64)) + (1 : Int64)) * (bb).toInt64) / (8 : Int64)) + (1 : Int64))), .second] [(.long ((((((cc + (1 : Int64)) - (1 : Int64)) / (1 : Int64)) * (bb).toInt64) + (7 : Int64)) / (8 : Int64)))]))) (fun t k => st16.trans k) ?_
        refine Wp.back (U' := (T16.setTop (mkF m 352 #[.val (.int p0), .val (.int p1), .val (.long q2), .second, .val (.int (1 : Int32)), .val (.long mm), .second, .val (.long ((144115188075855872 : Int64) / mm)), .second, .val (.long mm), .second, .val (.ref b1), .val (.long (bb).toInt64), .second, .val (.long (mm - (1 : Int64))), .second, .val (.long cc), .second, .val (.long ((cc / (1 : Int64)) + (1 : Int64))), .second, .val (.long (((cc / (1 : Int64)) + (1 : Int64)) * (bb).toInt64)), .second, .val (.long (((((cc / (1 : Int64)) + (1 : Int64)) * (bb).toInt64) / (8 : Int64)) + (1 : Int64))), .second] [(.int (1 : Int32))]))) (fun t k => XS.lload X16.here hx rfl (hb hby at_341) rfl (XS.lcmp X16.here hx rfl (hb hby at_343) rfl (XS.ifNo X16.here hx rfl (hb hby at_344) rfl ((if0 _ _).trans (teq ((lw_eq ((((((cc + (1 : Int64)) - (1 : Int64)) / (1 : Int64)) * (bb).toInt64) + (7 : Int64)) / (8 : Int64)) (((((cc / (1 : Int64)) + (1 : Int64)) * (bb).toInt64) / (8 : Int64)) + (1 : Int64))).mpr (own_f1_ff hB.1 hc c289_7 c322_13))).2) (XT.iconstV X16.here hx rfl (1 : Int32) (hb hby at_347) (by decide) (XS.goto X16.here hx rfl (pc0 := 348) (pc' := 352) rfl (hb hby at_348) (by decide) (by decide) k))))) ?_
        obtain ⟨fs, hr, hrun, hended, hW, hsame⟩ := X16.leave (v := (some (.int (1 : Int32)))) (fun h => by rw [hret] at h; cases h)
        refine Wp.done (retN X16 hx (t := .boolean) hret (by simp) (hb hby at_352) hr) hrun hended ⟨_, _, rfl, ?_, ⟨_, rfl⟩, hW, hsame.mono (by decide) (by decide)⟩
        show QL n0 _ T16.heap _
        exact ⟨rfl, N16⟩
  · rw [hk2]
    refine Wp.back (U' := (s₁.setTop (mkF m 45 #[.val (.int p0), .val (.int p1), .val (.long q2), .second, .val (.int (2 : Int32)), .unset, .unset, .unset, .unset, .unset, .unset, .unset, .unset, .unset, .unset, .unset, .unset, .unset, .unset, .unset, .unset, .unset, .unset, .unset] [(.long ((2 : Int64) + ((p0 &&& (268435455 : Int32))).toInt64))]))) (fun t k => XS.iload X0.here hx rfl (hb hby at_7) rfl (XT.iconstV X0.here hx rfl (1 : Int32) (hb hby at_9) (by decide) (XS.icmpYes X0.here hx rfl (pc0 := 10) (pc' := 30) rfl (hb hby at_10) rfl (feq (by decide)).2 (by decide) (by decide) (XS.iload X0.here hx rfl (hb hby at_30) rfl (XT.iconstV X0.here hx rfl (2 : Int32) (hb hby at_32) (by decide) (XS.icmpNo X0.here hx rfl (hb hby at_33) rfl (teq (by decide)).2 (Jvm.Stand.ldc2J X0 hx hown (mvT hZ (hw _ (List.mem_of_getElem? (i := 0) rfl))) rfl (hb hby at_36) (XS.iloadN X0.here hx rfl (hb hby at_39) rfl (Jvm.Stand.ldcI X0 hx hown (mvT hZ (hw _ (List.mem_of_getElem? (i := 43) rfl))) rfl (hb hby at_40) (XS.iand X0.here hx rfl (hb hby at_42) rfl (XS.i2l X0.here hx rfl (hb hby at_43) rfl (XS.ladd X0.here hx rfl (hb hby at_44) rfl k)))))))))))) ?_
    refine Wp.back (U' := (s₁.setTop (mkF m 82 #[.val (.int p0), .val (.int p1), .val (.long q2), .second, .val (.int (2 : Int32)), .val (.long ((2 : Int64) + ((p0 &&& (268435455 : Int32))).toInt64)), .second, .unset, .unset, .unset, .unset, .unset, .unset, .unset, .unset, .unset, .unset, .unset, .unset, .unset, .unset, .unset, .unset, .unset] []))) (fun t k => XS.lstore X0.here hx rfl (hb hby at_45) rfl (l' := #[.val (.int p0), .val (.int p1), .val (.long q2), .second, .val (.int (2 : Int32)), .val (.long ((2 : Int64) + ((p0 &&& (268435455 : Int32))).toInt64)), .second, .unset, .unset, .unset, .unset, .unset, .unset, .unset, .unset, .unset, .unset, .unset, .unset, .unset, .unset, .unset, .unset, .unset]) rfl (XS.goto X0.here hx rfl (pc0 := 47) (pc' := 82) rfl (hb hby at_47) (by decide) (by decide) k)) ?_
    have hm : 2 ≤ (((2 : Int64) + ((p0 &&& (268435455 : Int32))).toInt64)).toInt ∧ (((2 : Int64) + ((p0 &&& (268435455 : Int32))).toInt64)).toInt < 2147483648 := own_m2 p0
    generalize ((2 : Int64) + ((p0 &&& (268435455 : Int32))).toInt64) = mm at hm ⊢
    refine Wp.back (U' := (s₁.setTop (mkF m 101 #[.val (.int p0), .val (.int p1), .val (.long q2), .second, .val (.int (2 : Int32)), .val (.long mm), .second, .val (.long ((144115188075855872 : Int64) / mm)), .second, .unset, .unset, .unset, .unset, .unset, .unset, .unset, .unset, .unset, .unset, .unset, .unset, .unset, .unset, .unset] [(.int (lcmpW mm ((144115188075855872 : Int64) / mm)))]))) (fun t k => Jvm.Stand.ldc2J X0 hx hown (mvT hZ (hw _ (List.mem_of_getElem? (i := 1) rfl))) rfl (hb hby at_82) (XS.lload X0.here hx rfl (hb hby at_85) rfl (XS.ldiv X0.here hx rfl (hb hby at_87) rfl (own_mz hm) (XS.lstore X0.here hx rfl (hb hby at_88) rfl (l' := #[.val (.int p0), .val (.int p1), .val (.long q2), .second, .val (.int (2 : Int32)), .val (.long mm), .second, .val (.long ((144115188075855872 : Int64) / mm)), .second, .unset, .unset, .unset, .unset, .unset, .unset, .unset, .unset, .unset, .unset, .unset, .unset, .unset, .unset, .unset]) rfl (XS.iload X0.here hx rfl (hb hby at_90) rfl (XT.iconstV X0.here hx rfl (2 : Int32) (hb hby at_92) (by decide) (XS.icmpNo X0.here hx rfl (hb hby at_93) rfl (flt (by decide)).1 (XS.lload X0.here hx rfl (hb hby at_96) rfl (XS.lload X0.here hx rfl (hb hby at_98) rfl (XS.lcmp X0.here hx rfl (hb hby at_100) rfl k)))))))))) ?_
    by_cases c101_18 : ((144115188075855872 : Int64) / mm) < mm
    · refine Wp.back (U' := (s₁.setTop (mkF m 105 #[.val (.int p0), .val (.int p1), .val (.long q2), .second, .val (.int (2 : Int32)), .val (.long mm), .second, .val (.long ((144115188075855872 : Int64) / mm)), .second, .unset, .unset, .unset, .unset, .unset, .unset, .unset, .unset, .unset, .unset, .unset, .unset, .unset, .unset, .unset] [(.int (1 : Int32))]))) (fun t k => XS.ifNo X0.here hx rfl (hb hby at_101) rfl ((if0 _ _).trans (tlt ((lw_gt mm ((144115188075855872 : Int64) / mm)).mpr c101_18)).2.2.2) (XT.iconstV X0.here hx rfl (1 : Int32) (hb hby at_104) (by decide) k)) ?_
      obtain ⟨fs, hr, hrun, hended, hW, hsame⟩ := X0.leave (v := (some (.int (1 : Int32)))) (fun h => by rw [hret] at h; cases h)
      refine Wp.done (retN X0 hx (t := .boolean) hret (by simp) (hb hby at_105) hr) hrun hended ⟨_, _, rfl, ?_, ⟨_, rfl⟩, hW, hsame.mono (by decide) (by decide)⟩
      show QL n0 _ s₁.heap _
      exact ⟨rfl, N0⟩
    · refine Wp.back (U' := (s₁.setTop (mkF m 157 #[.val (.int p0), .val (.int p1), .val (.long q2), .second, .val (.int (2 : Int32)), .val (.long mm), .second, .val (.long ((144115188075855872 : Int64) / mm)), .second, .val (.long mm), .second, .unset, .unset, .unset, .unset, .unset, .unset, .unset, .unset, .unset, .unset, .unset, .unset, .unset] []))) (fun t k => XS.ifYes X0.here hx rfl (pc0 := 101) (pc' := 106) rfl (hb hby at_101) rfl ((if0 _ _).trans (flt (fun q => c101_18 ((lw_gt mm ((144115188075855872 : Int64) / mm)).mp q))).2.2.2) (by decide) (by decide) (XS.iload X0.here hx rfl (hb hby at_106) rfl (XT.iconstV X0.here hx rfl (3 : Int32) (hb hby at_108) (by decide) (XS.icmpYes X0.here hx rfl (pc0 := 109) (pc' := 125) rfl (hb hby at_109) rfl (tlt (by decide)).1 (by decide) (by decide) (XS.iload X0.here hx rfl (hb hby at_125) rfl (XT.iconstV X0.here hx rfl (4 : Int32) (hb hby at_127) (by decide) (XS.icmpYes X0.here hx rfl (pc0 := 128) (pc' := 147) rfl (hb hby at_128) rfl (tlt (by decide)).1 (by decide) (by decide) (XS.lload X0.here hx rfl (hb hby at_147) rfl (XS.lstore X0.here hx rfl (hb hby at_149) rfl (l' := #[.val (.int p0), .val (.int p1), .val (.long q2), .second, .val (.int (2 : Int32)), .val (.long mm), .second, .val (.long ((144115188075855872 : Int64) / mm)), .second, .val (.long mm), .second, .unset, .unset, .unset, .unset, .unset, .unset, .unset, .unset, .unset, .unset, .unset, .unset, .unset]) rfl (XS.iload X0.here hx rfl (hb hby at_151) rfl (XT.iconstV X0.here hx rfl (2 : Int32) (hb hby at_153) (by decide) (XS.icmpNo X0.here hx rfl (hb hby at_154) rfl (flt (by decide)).1 k)))))))))))) ?_
      refine Wp.back (U' := (s₁.setTop (mkF m 190 #[.val (.int p0), .val (.int p1), .val (.long q2), .second, .val (.int (2 : Int32)), .val (.long mm), .second, .val (.long ((144115188075855872 : Int64) / mm)), .second, .val (.long (mm * mm)), .second, .unset, .unset, .unset, .unset, .unset, .unset, .unset, .unset, .unset, .unset, .unset, .unset, .unset] []))) (fun t k => XS.lload X0.here hx rfl (hb hby at_157) rfl (XS.lload X0.here hx rfl (hb hby at_159) rfl (XS.lmul X0.here hx rfl (hb hby at_161) rfl (XS.lstore X0.here hx rfl (hb hby at_162) rfl (l' := #[.val (.int p0), .val (.int p1), .val (.long q2), .second, .val (.int (2 : Int32)), .val (.long mm), .second, .val (.long ((144115188075855872 : Int64) / mm)), .second, .val (.long (mm * mm)), .second, .unset, .unset, .unset, .unset, .unset, .unset, .unset, .unset, .unset, .unset, .unset, .unset, .unset]) rfl (XS.iload X0.here hx rfl (hb hby at_164) rfl (XT.iconstV X0.here hx rfl (3 : Int32) (hb hby at_166) (by decide) (XS.icmpYes X0.here hx rfl (pc0 := 167) (pc' := 177) rfl (hb hby at_167) rfl (tlt (by decide)).1 (by decide) (by decide) (XS.iload X0.here hx rfl (hb hby at_177) rfl (XT.iconstV X0.here hx rfl (4 : Int32) (hb hby at_179) (by decide) (XS.icmpYes X0.here hx rfl (pc0 := 180) (pc' := 190) rfl (hb hby at_180) rfl (tlt (by decide)).1 (by decide) (by decide) k)))))))))) ?_
      obtain ⟨T19, h19, X19, e19, E19, A19, D19, -, st19⟩ := newO X0 hx hZ hown (hw _ (List.mem_of_getElem? (i := 2) rfl)) (hw _ (List.mem_of_getElem? (i := 3) rfl)) (hw _ (List.mem_of_getElem? (i := 4) rfl)) e0 (g := (mkF m 190 #[.val (.int p0), .val (.int p1), .val (.long q2), .second, .val (.int (2 : Int32)), .val (.long mm), .second, .val (.long ((144115188075855872 : Int64) / mm)), .second, .val (.long (mm * mm)), .second, .unset, .unset, .unset, .unset, .unset, .unset, .unset, .unset, .unset, .unset, .unset, .unset, .unset] [])) rfl (hb hby at_190) (by decide) (by decide)
      obtain ⟨b19, g19⟩ : ∃ z, z = h0.size := ⟨_, rfl⟩
      rw [← g19] at A19 D19 st19
      have g_b19 : n0 ≤ b19 := Nat.le_trans Z0 (Nat.le_of_eq g19.symm)
      have f20_0 := Nat.le_trans Z0 E19.1
      have F19_13 : Fld Z h19 b19 "com/example/known_leaks/knownleaks/CellPacking" "powers" "[J" .null := D19 (Or.inr (hw _ (List.mem_of_getElem? (i := 13) rfl))) (ty := (.array .long)) (by decide)
      have F19_16 : Fld Z h19 b19 "com/example/known_leaks/knownleaks/CellPacking" "modulus" "I" (.int (0 : Int32)) := D19 (Or.inr (hw _ (List.mem_of_getElem? (i := 16) rfl))) (ty := .int) (by decide)
      have F19_18 : Fld Z h19 b19 "com/example/known_leaks/knownleaks/CellPacking" "cellsPerBlock" "I" (.int (0 : Int32)) := D19 (Or.inr (hw _ (List.mem_of_getElem? (i := 18) rfl))) (ty := .int) (by decide)
      have F19_29 : Fld Z h19 b19 "com/example/known_leaks/knownleaks/CellPacking" "blockBits" "I" (.int (0 : Int32)) := D19 (Or.inr (hw _ (List.mem_of_getElem? (i := 29) rfl))) (ty := .int) (by decide)
      refine Wp.back (U' := (T19.setTop (mkF m 193 #[.val (.int p0), .val (.int p1), .val (.long q2), .second, .val (.int (2 : Int32)), .val (.long mm), .second, .val (.long ((144115188075855872 : Int64) / mm)), .second, .val (.long (mm * mm)), .second, .unset, .unset, .unset, .unset, .unset, .unset, .unset, .unset, .unset, .unset, .unset, .unset, .unset] [(.ref b19)]))) st19 ?_
      refine Wp.back (U' := (T19.setTop (mkF m 199 #[.val (.int p0), .val (.int p1), .val (.long q2), .second, .val (.int (2 : Int32)), .val (.long mm), .second, .val (.long ((144115188075855872 : Int64) / mm)), .second, .val (.long (mm * mm)), .second, .unset, .unset, .unset, .unset, .unset, .unset, .unset, .unset, .unset, .unset, .unset, .unset, .unset] [(.int (2 : Int32)), (.int (mm).toInt32), (.ref b19), (.ref b19)]))) (fun t k => XS.dup X19.here hx rfl (hb hby at_193) rfl rfl (XS.lload X19.here hx rfl (hb hby at_194) rfl (XS.l2i X19.here hx rfl (hb hby at_196) rfl (XS.iload X19.here hx rfl (hb hby at_197) rfl k)))) ?_
      obtain ⟨_, _, ⟨T21, L21, k21, n21⟩, -, X21, ⟨Lc21, hQ21, l21, y21, z21⟩, st21⟩ := X19.specialBack hx (y := (⟨"com/example/known_leaks/knownleaks/CellPacking", "<init>", "(II)V"⟩ : MethodName)) rfl hown (mvT hZ (hw _ (List.mem_of_getElem? (i := 5) rfl))) (mvT hZ (hw _ (List.mem_of_getElem? (i := 6) rfl))) (mvT hZ (hw _ (List.mem_of_getElem? (i := 7) rfl))) (by decide) (backOf (W := 1) (rm_ini2 l Z a0 hw [] b19 (mm).toInt32  h19 n0 f20_0 A19 F19_13 F19_16 F19_18 F19_29 g_b19 (own_c2 hm) (own_cz hm) (own_p2_0 hm c101_18) (own_p2_1 hm c101_18)) hZ (hw _ (List.mem_of_getElem? (i := 7) rfl)) (hw _ (List.mem_of_getElem? (i := 4) rfl)) (by decide) (by decide)) (g := (mkF m 199 #[.val (.int p0), .val (.int p1), .val (.long q2), .second, .val (.int (2 : Int32)), .val (.long mm), .second, .val (.long ((144115188075855872 : Int64) / mm)), .second, .val (.long (mm * mm)), .second, .unset, .unset, .unset, .unset, .unset, .unset, .unset, .unset, .unset, .unset, .unset, .unset, .unset] [(.int (2 : Int32)), (.int (mm).toInt32), (.ref b19), (.ref b19)])) rfl (by rw [hml]; rfl) (Steps.refl _) (a := b19) (argsL := [(.int (mm).toInt32), (.int (2 : Int32))]) (rest := [(.ref b19)]) (lenOf pd0_0 rfl) rfl (by show 2 * 0 + _ ≤ _; exact Nat.le_of_eq rfl) (hb hby at_199) (fun _ _ => ⟨rfl, e19, (by decide : 1 + 1 ≤ _), (by decide : 4 + 2 ≤ _)⟩)
      dsimp only [Pt.U, Pt.locs, Pt.cells, Pt.slots] at X21 l21 y21 z21 st21 hQ21
      subst l21 y21 z21
      obtain ⟨rfl, N21q, K21, o21_0, o21_1, o21_2⟩ := hQ21
      have f22_0 := Nat.le_trans f20_0 K21.1
      have f22_1 := A19.keep K21
      have N21 := Fr.app N0 N21q
      refine Wp.back (U' := (T21.setTop (mkF m 202 #[.val (.int p0), .val (.int p1), .val (.long q2), .second, .val (.int (2 : Int32)), .val (.long mm), .second, .val (.long ((144115188075855872 : Int64) / mm)), .second, .val (.long (mm * mm)), .second, .unset, .unset, .unset, .unset, .unset, .unset, .unset, .unset, .unset, .unset, .unset, .unset, .unset] [(.ref b19)]))) (fun t k => st21.trans k) ?_
      refine Wp.back (U' := (T21.setTop (mkF m 204 #[.val (.int p0), .val (.int p1), .val (.long q2), .second, .val (.int (2 : Int32)), .val (.long mm), .second, .val (.long ((144115188075855872 : Int64) / mm)), .second, .val (.long (mm * mm)), .second, .val (.ref b19), .unset, .unset, .unset, .unset, .unset, .unset, .unset, .unset, .unset, .unset, .unset, .unset] []))) (fun t k => XS.astore X21.here hx rfl (hb hby at_202) rfl rfl (l' := #[.val (.int p0), .val (.int p1), .val (.long q2), .second, .val (.int (2 : Int32)), .val (.long mm), .second, .val (.long ((144115188075855872 : Int64) / mm)), .second, .val (.long (mm * mm)), .second, .val (.ref b19), .unset, .unset, .unset, .unset, .unset, .unset, .unset, .unset, .unset, .unset, .unset, .unset]) rfl k) ?_
      have hB := own_bb2 hm c101_18
      generalize ((64 : Int32) - (f_lnz ((((1 : Int64) * ((mm).toInt32).toInt64) * ((mm).toInt32).toInt64) - (1 : Int64)))) = bb at hB o21_2 ⊢
      refine Wp.back (U' := (T21.setTop (mkF m 213 #[.val (.int p0), .val (.int p1), .val (.long q2), .second, .val (.int (2 : Int32)), .val (.long mm), .second, .val (.long ((144115188075855872 : Int64) / mm)), .second, .val (.long (mm * mm)), .second, .val (.ref b19), .unset, .unset, .unset, .unset, .unset, .unset, .unset, .unset, .unset, .unset, .unset, .unset] [(.long (16 : Int64)), (.ref b19)]))) (fun t k => XS.aload X21.here hx rfl (hb hby at_204) rfl rfl (Jvm.Stand.ldc2J X21 hx hown (mvT hZ (hw _ (List.mem_of_getElem? (i := 30) rfl))) rfl (hb hby at_206) (XS.iload X21.here hx rfl (hb hby at_209) rfl (XS.i2l X21.here hx rfl (hb hby at_211) rfl (XS.lmul X21.here hx rfl (hb hby at_212) rfl k))))) ?_
      obtain ⟨cq23, kq23, q23a, q23b, q23c⟩ := isOf hZ rfl o21_0
      obtain ⟨_, _, ⟨T23, L23, k23, n23⟩, -, X23, ⟨Lc23, hQ23, l23, y23, z23⟩, st23⟩ := X21.virtualBack hx (y := (⟨"com/example/known_leaks/knownleaks/CellPacking", "bytes", "(J)J"⟩ : MethodName)) (z := (⟨"com/example/known_leaks/knownleaks/CellPacking", "bytes", "(J)J"⟩ : MethodName)) hown (mvT hZ (hw _ (List.mem_of_getElem? (i := 31) rfl))) (mvT hZ (hw _ (List.mem_of_getElem? (i := 32) rfl))) (notFace_of_selects (args := #[]) (mvT hZ (hw _ (List.mem_of_getElem? (i := 34) rfl)))) (mvT hZ (hw _ (List.mem_of_getElem? (i := 34) rfl))) (mvT hZ (hw _ (List.mem_of_getElem? (i := 33) rfl))) (by decide) (backOf (W := 0) (rm_be2 l Z a0 hw [] b19 bb T21.heap n0 f22_0 o21_1 o21_2) hZ (hw _ (List.mem_of_getElem? (i := 35) rfl)) (hw _ (List.mem_of_getElem? (i := 4) rfl)) (by decide) (by decide)) q23a q23c (g := (mkF m 213 #[.val (.int p0), .val (.int p1), .val (.long q2), .second, .val (.int (2 : Int32)), .val (.long mm), .second, .val (.long ((144115188075855872 : Int64) / mm)), .second, .val (.long (mm * mm)), .second, .val (.ref b19), .unset, .unset, .unset, .unset, .unset, .unset, .unset, .unset, .unset, .unset, .unset, .unset] [(.long (16 : Int64)), (.ref b19)])) rfl (by rw [hml]; rfl) (Steps.refl _) (argsL := [(.long (16 : Int64))]) (rest := []) (lenOf pd0_1 rfl) rfl (by show 2 * 0 + _ ≤ _; exact Nat.le_of_eq rfl) (hb hby at_213) (fun _ _ => ⟨rfl, rfl, (by decide : 2 + 0 ≤ _), (by decide : 6 + 0 ≤ _)⟩)
      dsimp only [Pt.U, Pt.locs, Pt.cells, Pt.slots] at X23 l23 y23 z23 st23 hQ23
      subst l23 y23 z23
      obtain ⟨rfl, N23q, K23⟩ := hQ23
      have f24_0 := Nat.le_trans f22_0 K23.1
      have f24_1 := o21_0.keep K23
      have f24_2 := o21_1.keep K23 nin0
      have f24_3 := o21_2.keep K23 nin0
      have N23 := Fr.app N21 N23q
      refine Wp.back (U' := (T23.setTop (mkF m 216 #[.val (.int p0), .val (.int p1), .val (.long q2), .second, .val (.int (2 : Int32)), .val (.long mm), .second, .val (.long ((144115188075855872 : Int64) / mm)), .second, .val (.long (mm * mm)), .second, .val (.ref b19), .unset, .unset, .unset, .unset, .unset, .unset, .unset, .unset, .unset, .unset, .unset, .unset] [(.long ((((8 : Int64) * (bb).toInt64) + (7 : Int64)) / (8 : Int64)))]))) (fun t k => st23.trans k) ?_
      refine Wp.back (U' := (T23.setTop (mkF m 218 #[.val (.int p0), .val (.int p1), .val (.long q2), .second, .val (.int (2 : Int32)), .val (.long mm), .second, .val (.long ((144115188075855872 : Int64) / mm)), .second, .val (.long (mm * mm)), .second, .val (.ref b19), .val (.long ((((8 : Int64) * (bb).toInt64) + (7 : Int64)) / (8 : Int64))), .second, .unset, .unset, .unset, .unset, .unset, .unset, .unset, .unset, .unset, .unset] []))) (fun t k => XS.lstore X23.here hx rfl (hb hby at_216) rfl (l' := #[.val (.int p0), .val (.int p1), .val (.long q2), .second, .val (.int (2 : Int32)), .val (.long mm), .second, .val (.long ((144115188075855872 : Int64) / mm)), .second, .val (.long (mm * mm)), .second, .val (.ref b19), .val (.long ((((8 : Int64) * (bb).toInt64) + (7 : Int64)) / (8 : Int64))), .second, .unset, .unset, .unset, .unset, .unset, .unset, .unset, .unset, .unset, .unset]) rfl k) ?_
      rw [show ((((8 : Int64) * (bb).toInt64) + (7 : Int64)) / (8 : Int64)) = (bb).toInt64 from own_b8 hB.1]
      refine Wp.back (U' := (T23.setTop (mkF m 242 #[.val (.int p0), .val (.int p1), .val (.long q2), .second, .val (.int (2 : Int32)), .val (.long mm), .second, .val (.long ((144115188075855872 : Int64) / mm)), .second, .val (.long (mm * mm)), .second, .val (.ref b19), .val (.long (bb).toInt64), .second, .val (.long ((mm * mm) - (1 : Int64))), .second, .unset, .unset, .unset, .unset, .unset, .unset, .unset, .unset] []))) (fun t k => XS.lload X23.here hx rfl (hb hby at_218) rfl (XT.lconstV X23.here hx rfl (1 : Int64) (hb hby at_220) (by decide) (XS.lcmp X23.here hx rfl (hb hby at_221) rfl (XS.ifNo X23.here hx rfl (hb hby at_222) rfl ((if0 _ _).trans (flt (fun q => (own_l1 hB.1) ((lw_lt (bb).toInt64 (1 : Int64)).mp q))).1) (XS.lload X23.here hx rfl (hb hby at_225) rfl (Jvm.Stand.ldc2J X23 hx hown (mvT hZ (hw _ (List.mem_of_getElem? (i := 38) rfl))) rfl (hb hby at_227) (XS.lcmp X23.here hx rfl (hb hby at_230) rfl (XS.ifYes X23.here hx rfl (pc0 := 231) (pc' := 236) rfl (hb hby at_231) rfl ((if0 _ _).trans (flt (fun q => (own_l2 hB.1) ((lw_gt (bb).toInt64 (57 : Int64)).mp q))).2.2.2) (by decide) (by decide) (XS.lload X23.here hx rfl (hb hby at_236) rfl (XT.lconstV X23.here hx rfl (1 : Int64) (hb hby at_238) (by decide) (XS.lsub X23.here hx rfl (hb hby at_239) rfl (XS.lstore X23.here hx rfl (hb hby at_240) rfl (l' := #[.val (.int p0), .val (.int p1), .val (.long q2), .second, .val (.int (2 : Int32)), .val (.long mm), .second, .val (.long ((144115188075855872 : Int64) / mm)), .second, .val (.long (mm * mm)), .second, .val (.ref b19), .val (.long (bb).toInt64), .second, .val (.long ((mm * mm) - (1 : Int64))), .second, .unset, .unset, .unset, .unset, .unset, .unset, .unset, .unset]) rfl k)))))))))))) ?_
      refine Wp.back (U' := (T23.setTop (mkF m 260 #[.val (.int p0), .val (.int p1), .val (.long q2), .second, .val (.int (2 : Int32)), .val (.long mm), .second, .val (.long ((144115188075855872 : Int64) / mm)), .second, .val (.long (mm * mm)), .second, .val (.ref b19), .val (.long (bb).toInt64), .second, .val (.long ((mm * mm) - (1 : Int64))), .second, .unset, .unset, .unset, .unset, .unset, .unset, .unset, .unset] [(.long ((bb).toInt64 - (1 : Int64))), (.long (1 : Int64)), (.long ((mm * mm) - (1 : Int64)))]))) (fun t k => XS.lload X23.here hx rfl (hb hby at_242) rfl (XT.lconstV X23.here hx rfl (1 : Int64) (hb hby at_244) (by decide) (XS.lload X23.here hx rfl (hb hby at_245) rfl (XS.l2i X23.here hx rfl (hb hby at_247) rfl (XS.lshl X23.here hx rfl (hb hby at_248) rfl (XS.lcmp X23.here hx rfl (hb hby at_249) rfl (XS.ifNo X23.here hx rfl (hb hby at_250) rfl ((if0 _ _).trans (tlt ((lw_lt ((mm * mm) - (1 : Int64)) ((1 : Int64) <<< (((bb).toInt64).toInt32 &&& 0x3f).toInt64)).mpr (own_t1 hB))).2.1) (XS.lload X23.here hx rfl (hb hby at_253) rfl (XT.lconstV X23.here hx rfl (1 : Int64) (hb hby at_255) (by decide) (XS.lload X23.here hx rfl (hb hby at_256) rfl (XT.lconstV X23.here hx rfl (1 : Int64) (hb hby at_258) (by decide) (XS.lsub X23.here hx rfl (hb hby at_259) rfl k)))))))))))) ?_
      refine Wp.back (U' := (T23.setTop (mkF m 275 #[.val (.int p0), .val (.int p1), .val (.long q2), .second, .val (.int (2 : Int32)), .val (.long mm), .second, .val (.long ((144115188075855872 : Int64) / mm)), .second, .val (.long (mm * mm)), .second, .val (.ref b19), .val (.long (bb).toInt64), .second, .val (.long ((mm * mm) - (1 : Int64))), .second, .val (.long (q2 &&& (72057594037927935 : Int64))), .second, .unset, .unset, .unset, .unset, .unset, .unset] []))) (fun t k => XS.l2i X23.here hx rfl (hb hby at_260) rfl (XS.lshl X23.here hx rfl (hb hby at_261) rfl (XS.lcmp X23.here hx rfl (hb hby at_262) rfl (XS.ifYes X23.here hx rfl (pc0 := 263) (pc' := 268) rfl (hb hby at_263) rfl ((if0 _ _).trans (flt (fun q => (own_t2 hB) ((lw_lt ((mm * mm) - (1 : Int64)) ((1 : Int64) <<< ((((bb).toInt64 - (1 : Int64))).toInt32 &&& 0x3f).toInt64)).mp q))).2.1) (by decide) (by decide) (XS.lloadN X23.here hx rfl (hb hby at_268) rfl (Jvm.Stand.ldc2J X23 hx hown (mvT hZ (hw _ (List.mem_of_getElem? (i := 39) rfl))) rfl (hb hby at_269) (XS.land X23.here hx rfl (hb hby at_272) rfl (XS.lstore X23.here hx rfl (hb hby at_273) rfl (l' := #[.val (.int p0), .val (.int p1), .val (.long q2), .second, .val (.int (2 : Int32)), .val (.long mm), .second, .val (.long ((144115188075855872 : Int64) / mm)), .second, .val (.long (mm * mm)), .second, .val (.ref b19), .val (.long (bb).toInt64), .second, .val (.long ((mm * mm) - (1 : Int64))), .second, .val (.long (q2 &&& (72057594037927935 : Int64))), .second, .unset, .unset, .unset, .unset, .unset, .unset]) rfl k)))))))) ?_
      have hc := own_cl q2
      generalize (q2 &&& (72057594037927935 : Int64)) = cc at hc ⊢
      refine Wp.back (U' := (T23.setTop (mkF m 289 #[.val (.int p0), .val (.int p1), .val (.long q2), .second, .val (.int (2 : Int32)), .val (.long mm), .second, .val (.long ((144115188075855872 : Int64) / mm)), .second, .val (.long (mm * mm)), .second, .val (.ref b19), .val (.long (bb).toInt64), .second, .val (.long ((mm * mm) - (1 : Int64))), .second, .val (.long cc), .second, .unset, .unset, .unset, .unset, .unset, .unset] [(.int (lcmpW (cc - (cc / (2 : Int64)) * (2 : Int64)) (0 : Int64))), (.long (cc / (2 : Int64)))]))) (fun t k => XS.lload X23.here hx rfl (hb hby at_275) rfl (XS.iload X23.here hx rfl (hb hby at_277) rfl (XS.i2l X23.here hx rfl (hb hby at_279) rfl (XS.ldiv X23.here hx rfl (hb hby at_280) rfl (by decide) (XS.lload X23.here hx rfl (hb hby at_281) rfl (XS.iload X23.here hx rfl (hb hby at_283) rfl (XS.i2l X23.here hx rfl (hb hby at_285) rfl (XS.lrem X23.here hx rfl (hb hby at_286) rfl (by decide) (XT.lconstV X23.here hx rfl (0 : Int64) (hb hby at_287) (by decide) (XS.lcmp X23.here hx rfl (hb hby at_288) rfl k)))))))))) ?_
      by_cases c289_25 : (cc - (cc / (2 : Int64)) * (2 : Int64)) = (0 : Int64)
      · refine Wp.back (U' := (T23.setTop (mkF m 314 #[.val (.int p0), .val (.int p1), .val (.long q2), .second, .val (.int (2 : Int32)), .val (.long mm), .second, .val (.long ((144115188075855872 : Int64) / mm)), .second, .val (.long (mm * mm)), .second, .val (.ref b19), .val (.long (bb).toInt64), .second, .val (.long ((mm * mm) - (1 : Int64))), .second, .val (.long cc), .second, .val (.long ((cc / (2 : Int64)) + (0 : Int64))), .second, .val (.long (((cc / (2 : Int64)) + (0 : Int64)) * (bb).toInt64)), .second, .unset, .unset] [(.long ((((cc / (2 : Int64)) + (0 : Int64)) * (bb).toInt64) / (8 : Int64)))]))) (fun t k => XS.ifYes X23.here hx rfl (pc0 := 289) (pc' := 296) rfl (hb hby at_289) rfl ((if0 _ _).trans (teq ((lw_eq (cc - (cc / (2 : Int64)) * (2 : Int64)) (0 : Int64)).mpr c289_25)).1) (by decide) (by decide) (XT.iconstV X23.here hx rfl (0 : Int32) (hb hby at_296) (by decide) (XS.i2l X23.here hx rfl (hb hby at_297) rfl (XS.ladd X23.here hx rfl (hb hby at_298) rfl (XS.lstore X23.here hx rfl (hb hby at_299) rfl (l' := #[.val (.int p0), .val (.int p1), .val (.long q2), .second, .val (.int (2 : Int32)), .val (.long mm), .second, .val (.long ((144115188075855872 : Int64) / mm)), .second, .val (.long (mm * mm)), .second, .val (.ref b19), .val (.long (bb).toInt64), .second, .val (.long ((mm * mm) - (1 : Int64))), .second, .val (.long cc), .second, .val (.long ((cc / (2 : Int64)) + (0 : Int64))), .second, .unset, .unset, .unset, .unset]) rfl (XS.lload X23.here hx rfl (hb hby at_301) rfl (XS.lload X23.here hx rfl (hb hby at_303) rfl (XS.lmul X23.here hx rfl (hb hby at_305) rfl (XS.lstore X23.here hx rfl (hb hby at_306) rfl (l' := #[.val (.int p0), .val (.int p1), .val (.long q2), .second, .val (.int (2 : Int32)), .val (.long mm), .second, .val (.long ((144115188075855872 : Int64) / mm)), .second, .val (.long (mm * mm)), .second, .val (.ref b19), .val (.long (bb).toInt64), .second, .val (.long ((mm * mm) - (1 : Int64))), .second, .val (.long cc), .second, .val (.long ((cc / (2 : Int64)) + (0 : Int64))), .second, .val (.long (((cc / (2 : Int64)) + (0 : Int64)) * (bb).toInt64)), .second, .unset, .unset]) rfl (XS.lload X23.here hx rfl (hb hby at_308) rfl (Jvm.Stand.ldc2J X23 hx hown (mvT hZ (hw _ (List.mem_of_getElem? (i := 30) rfl))) rfl (hb hby at_310) (XS.ldiv X23.here hx rfl (hb hby at_313) rfl (by decide) k)))))))))))) ?_
        refine Wp.back (U' := (T23.setTop (mkF m 322 #[.val (.int p0), .val (.int p1), .val (.long q2), .second, .val (.int (2 : Int32)), .val (.long mm), .second, .val (.long ((144115188075855872 : Int64) / mm)), .second, .val (.long (mm * mm)), .second, .val (.ref b19), .val (.long (bb).toInt64), .second, .val (.long ((mm * mm) - (1 : Int64))), .second, .val (.long cc), .second, .val (.long ((cc / (2 : Int64)) + (0 : Int64))), .second, .val (.long (((cc / (2 : Int64)) + (0 : Int64)) * (bb).toInt64)), .second, .unset, .unset] [(.int (lcmpW ((((cc / (2 : Int64)) + (0 : Int64)) * (bb).toInt64) - ((((cc / (2 : Int64)) + (0 : Int64)) * (bb).toInt64) / (8 : Int64)) * (8 : Int64)) (0 : Int64))), (.long ((((cc / (2 : Int64)) + (0 : Int64)) * (bb).toInt64) / (8 : Int64)))]))) (fun t k => XS.lload X23.here hx rfl (hb hby at_314) rfl (Jvm.Stand.ldc2J X23 hx hown (mvT hZ (hw _ (List.mem_of_getElem? (i := 30) rfl))) rfl (hb hby at_316) (XS.lrem X23.here hx rfl (hb hby at_319) rfl (by decide) (XT.lconstV X23.here hx rfl (0 : Int64) (hb hby at_320) (by decide) (XS.lcmp X23.here hx rfl (hb hby at_321) rfl k))))) ?_
        by_cases c322_26 : ((((cc / (2 : Int64)) + (0 : Int64)) * (bb).toInt64) - ((((cc / (2 : Int64)) + (0 : Int64)) * (bb).toInt64) / (8 : Int64)) * (8 : Int64)) = (0 : Int64)
        · refine Wp.back (U' := (T23.setTop (mkF m 338 #[.val (.int p0), .val (.int p1), .val (.long q2), .second, .val (.int (2 : Int32)), .val (.long mm), .second, .val (.long ((144115188075855872 : Int64) / mm)), .second, .val (.long (mm * mm)), .second, .val (.ref b19), .val (.long (bb).toInt64), .second, .val (.long ((mm * mm) - (1 : Int64))), .second, .val (.long cc), .second, .val (.long ((cc / (2 : Int64)) + (0 : Int64))), .second, .val (.long (((cc / (2 : Int64)) + (0 : Int64)) * (bb).toInt64)), .second, .val (.long (((((cc / (2 : Int64)) + (0 : Int64)) * (bb).toInt64) / (8 : Int64)) + (0 : Int64))), .second] [(.long cc), (.ref b19)]))) (fun t k => XS.ifYes X23.here hx rfl (pc0 := 322) (pc' := 329) rfl (hb hby at_322) rfl ((if0 _ _).trans (teq ((lw_eq ((((cc / (2 : Int64)) + (0 : Int64)) * (bb).toInt64) - ((((cc / (2 : Int64)) + (0 : Int64)) * (bb).toInt64) / (8 : Int64)) * (8 : Int64)) (0 : Int64)).mpr c322_26)).1) (by decide) (by decide) (XT.iconstV X23.here hx rfl (0 : Int32) (hb hby at_329) (by decide) (XS.i2l X23.here hx rfl (hb hby at_330) rfl (XS.ladd X23.here hx rfl (hb hby at_331) rfl (XS.lstore X23.here hx rfl (hb hby at_332) rfl (l' := #[.val (.int p0), .val (.int p1), .val (.long q2), .second, .val (.int (2 : Int32)), .val (.long mm), .second, .val (.long ((144115188075855872 : Int64) / mm)), .second, .val (.long (mm * mm)), .second, .val (.ref b19), .val (.long (bb).toInt64), .second, .val (.long ((mm * mm) - (1 : Int64))), .second, .val (.long cc), .second, .val (.long ((cc / (2 : Int64)) + (0 : Int64))), .second, .val (.long (((cc / (2 : Int64)) + (0 : Int64)) * (bb).toInt64)), .second, .val (.long (((((cc / (2 : Int64)) + (0 : Int64)) * (bb).toInt64) / (8 : Int64)) + (0 : Int64))), .second]) rfl (XS.aload X23.here hx rfl (hb hby at_334) rfl rfl (XS.lload X23.here hx rfl (hb hby at_336) rfl k))))))) ?_
          obtain ⟨cq27, kq27, q27a, q27b, q27c⟩ := isOf hZ rfl f24_1
          obtain ⟨_, _, ⟨T27, L27, k27, n27⟩, -, X27, ⟨Lc27, hQ27, l27, y27, z27⟩, st27⟩ := X23.virtualBack hx (y := (⟨"com/example/known_leaks/knownleaks/CellPacking", "bytes", "(J)J"⟩ : MethodName)) (z := (⟨"com/example/known_leaks/knownleaks/CellPacking", "bytes", "(J)J"⟩ : MethodName)) hown (mvT hZ (hw _ (List.mem_of_getElem? (i := 31) rfl))) (mvT hZ (hw _ (List.mem_of_getElem? (i := 32) rfl))) (notFace_of_selects (args := #[]) (mvT hZ (hw _ (List.mem_of_getElem? (i := 34) rfl)))) (mvT hZ (hw _ (List.mem_of_getElem? (i := 34) rfl))) (mvT hZ (hw _ (List.mem_of_getElem? (i := 33) rfl))) (by decide) (backOf (W := 0) (rm_by2 l Z a0 hw [] b19 cc bb T23.heap n0 f24_0 f24_2 f24_3) hZ (hw _ (List.mem_of_getElem? (i := 35) rfl)) (hw _ (List.mem_of_getElem? (i := 4) rfl)) (by decide) (by decide)) q27a q27c (g := (mkF m 338 #[.val (.int p0), .val (.int p1), .val (.long q2), .second, .val (.int (2 : Int32)), .val (.long mm), .second, .val (.long ((144115188075855872 : Int64) / mm)), .second, .val (.long (mm * mm)), .second, .val (.ref b19), .val (.long (bb).toInt64), .second, .val (.long ((mm * mm) - (1 : Int64))), .second, .val (.long cc), .second, .val (.long ((cc / (2 : Int64)) + (0 : Int64))), .second, .val (.long (((cc / (2 : Int64)) + (0 : Int64)) * (bb).toInt64)), .second, .val (.long (((((cc / (2 : Int64)) + (0 : Int64)) * (bb).toInt64) / (8 : Int64)) + (0 : Int64))), .second] [(.long cc), (.ref b19)])) rfl (by rw [hml]; rfl) (Steps.refl _) (argsL := [(.long cc)]) (rest := []) (lenOf pd0_1 rfl) rfl (by show 2 * 0 + _ ≤ _; exact Nat.le_of_eq rfl) (hb hby at_338) (fun _ _ => ⟨rfl, rfl, (by decide : 2 + 0 ≤ _), (by decide : 6 + 0 ≤ _)⟩)
          dsimp only [Pt.U, Pt.locs, Pt.cells, Pt.slots] at X27 l27 y27 z27 st27 hQ27
          subst l27 y27 z27
          obtain ⟨rfl, N27q, K27⟩ := hQ27
          have f28_0 := Nat.le_trans f24_0 K27.1
          have f28_1 := f24_1.keep K27
          have f28_2 := f24_2.keep K27 nin0
          have f28_3 := f24_3.keep K27 nin0
          have N27 := Fr.app N23 N27q
          refine Wp.back (U' := (T27.setTop (mkF m 341 #[.val (.int p0), .val (.int p1), .val (.long q2), .second, .val (.int (2 : Int32)), .val (.long mm), .second, .val (.long ((144115188075855872 : Int64) / mm)), .second, .val (.long (mm * mm)), .second, .val (.ref b19), .val (.long (bb).toInt64), .second, .val (.long ((mm * mm) - (1 : Int64))), .second, .val (.long cc), .second, .val (.long ((cc / (2 : Int64)) + (0 : Int64))), .second, .val (.long (((cc / (2 : Int64)) + (0 : Int64)) * (bb).toInt64)), .second, .val (.long (((((cc / (2 : Int64)) + (0 : Int64)) * (bb).toInt64) / (8 : Int64)) + (0 : Int64))), .second] [(.long ((((((cc + (2 : Int64)) - (1 : Int64)) / (2 : Int64)) * (bb).toInt64) + (7 : Int64)) / (8 : Int64)))]))) (fun t k => st27.trans k) ?_
          refine Wp.back (U' := (T27.setTop (mkF m 352 #[.val (.int p0), .val (.int p1), .val (.long q2), .second, .val (.int (2 : Int32)), .val (.long mm), .second, .val (.long ((144115188075855872 : Int64) / mm)), .second, .val (.long (mm * mm)), .second, .val (.ref b19), .val (.long (bb).toInt64), .second, .val (.long ((mm * mm) - (1 : Int64))), .second, .val (.long cc), .second, .val (.long ((cc / (2 : Int64)) + (0 : Int64))), .second, .val (.long (((cc / (2 : Int64)) + (0 : Int64)) * (bb).toInt64)), .second, .val (.long (((((cc / (2 : Int64)) + (0 : Int64)) * (bb).toInt64) / (8 : Int64)) + (0 : Int64))), .second] [(.int (1 : Int32))]))) (fun t k => XS.lload X27.here hx rfl (hb hby at_341) rfl (XS.lcmp X27.here hx rfl (hb hby at_343) rfl (XS.ifNo X27.here hx rfl (hb hby at_344) rfl ((if0 _ _).trans (teq ((lw_eq ((((((cc + (2 : Int64)) - (1 : Int64)) / (2 : Int64)) * (bb).toInt64) + (7 : Int64)) / (8 : Int64)) (((((cc / (2 : Int64)) + (0 : Int64)) * (bb).toInt64) / (8 : Int64)) + (0 : Int64))).mpr (own_f2_tt hB.1 hc c289_25 c322_26))).2) (XT.iconstV X27.here hx rfl (1 : Int32) (hb hby at_347) (by decide) (XS.goto X27.here hx rfl (pc0 := 348) (pc' := 352) rfl (hb hby at_348) (by decide) (by decide) k))))) ?_
          obtain ⟨fs, hr, hrun, hended, hW, hsame⟩ := X27.leave (v := (some (.int (1 : Int32)))) (fun h => by rw [hret] at h; cases h)
          refine Wp.done (retN X27 hx (t := .boolean) hret (by simp) (hb hby at_352) hr) hrun hended ⟨_, _, rfl, ?_, ⟨_, rfl⟩, hW, hsame.mono (by decide) (by decide)⟩
          show QL n0 _ T27.heap _
          exact ⟨rfl, N27⟩
        · refine Wp.back (U' := (T23.setTop (mkF m 338 #[.val (.int p0), .val (.int p1), .val (.long q2), .second, .val (.int (2 : Int32)), .val (.long mm), .second, .val (.long ((144115188075855872 : Int64) / mm)), .second, .val (.long (mm * mm)), .second, .val (.ref b19), .val (.long (bb).toInt64), .second, .val (.long ((mm * mm) - (1 : Int64))), .second, .val (.long cc), .second, .val (.long ((cc / (2 : Int64)) + (0 : Int64))), .second, .val (.long (((cc / (2 : Int64)) + (0 : Int64)) * (bb).toInt64)), .second, .val (.long (((((cc / (2 : Int64)) + (0 : Int64)) * (bb).toInt64) / (8 : Int64)) + (1 : Int64))), .second] [(.long cc), (.ref b19)]))) (fun t k => XS.ifNo X23.here hx rfl (hb hby at_322) rfl ((if0 _ _).trans (feq (fun q => c322_26 ((lw_eq ((((cc / (2 : Int64)) + (0 : Int64)) * (bb).toInt64) - ((((cc / (2 : Int64)) + (0 : Int64)) * (bb).toInt64) / (8 : Int64)) * (8 : Int64)) (0 : Int64)).mp q))).1) (XT.iconstV X23.here hx rfl (1 : Int32) (hb hby at_325) (by decide) (XS.goto X23.here hx rfl (pc0 := 326) (pc' := 330) rfl (hb hby at_326) (by decide) (by decide) (XS.i2l X23.here hx rfl (hb hby at_330) rfl (XS.ladd X23.here hx rfl (hb hby at_331) rfl (XS.lstore X23.here hx rfl (hb hby at_332) rfl (l' := #[.val (.int p0), .val (.int p1), .val (.long q2), .second, .val (.int (2 : Int32)), .val (.long mm), .second, .val (.long ((144115188075855872 : Int64) / mm)), .second, .val (.long (mm * mm)), .second, .val (.ref b19), .val (.long (bb).toInt64), .second, .val (.long ((mm * mm) - (1 : Int64))), .second, .val (.long cc), .second, .val (.long ((cc / (2 : Int64)) + (0 : Int64))), .second, .val (.long (((cc / (2 : Int64)) + (0 : Int64)) * (bb).toInt64)), .second, .val (.long (((((cc / (2 : Int64)) + (0 : Int64)) * (bb).toInt64) / (8 : Int64)) + (1 : Int64))), .second]) rfl (XS.aload X23.here hx rfl (hb hby at_334) rfl rfl (XS.lload X23.here hx rfl (hb hby at_336) rfl k)))))))) ?_
          obtain ⟨cq29, kq29, q29a, q29b, q29c⟩ := isOf hZ rfl f24_1
          obtain ⟨_, _, ⟨T29, L29, k29, n29⟩, -, X29, ⟨Lc29, hQ29, l29, y29, z29⟩, st29⟩ := X23.virtualBack hx (y := (⟨"com/example/known_leaks/knownleaks/CellPacking", "bytes", "(J)J"⟩ : MethodName)) (z := (⟨"com/example/known_leaks/knownleaks/CellPacking", "bytes", "(J)J"⟩ : MethodName)) hown (mvT hZ (hw _ (List.mem_of_getElem? (i := 31) rfl))) (mvT hZ (hw _ (List.mem_of_getElem? (i := 32) rfl))) (notFace_of_selects (args := #[]) (mvT hZ (hw _ (List.mem_of_getElem? (i := 34) rfl)))) (mvT hZ (hw _ (List.mem_of_getElem? (i := 34) rfl))) (mvT hZ (hw _ (List.mem_of_getElem? (i := 33) rfl))) (by decide) (backOf (W := 0) (rm_by2 l Z a0 hw [] b19 cc bb T23.heap n0 f24_0 f24_2 f24_3) hZ (hw _ (List.mem_of_getElem? (i := 35) rfl)) (hw _ (List.mem_of_getElem? (i := 4) rfl)) (by decide) (by decide)) q29a q29c (g := (mkF m 338 #[.val (.int p0), .val (.int p1), .val (.long q2), .second, .val (.int (2 : Int32)), .val (.long mm), .second, .val (.long ((144115188075855872 : Int64) / mm)), .second, .val (.long (mm * mm)), .second, .val (.ref b19), .val (.long (bb).toInt64), .second, .val (.long ((mm * mm) - (1 : Int64))), .second, .val (.long cc), .second, .val (.long ((cc / (2 : Int64)) + (0 : Int64))), .second, .val (.long (((cc / (2 : Int64)) + (0 : Int64)) * (bb).toInt64)), .second, .val (.long (((((cc / (2 : Int64)) + (0 : Int64)) * (bb).toInt64) / (8 : Int64)) + (1 : Int64))), .second] [(.long cc), (.ref b19)])) rfl (by rw [hml]; rfl) (Steps.refl _) (argsL := [(.long cc)]) (rest := []) (lenOf pd0_1 rfl) rfl (by show 2 * 0 + _ ≤ _; exact Nat.le_of_eq rfl) (hb hby at_338) (fun _ _ => ⟨rfl, rfl, (by decide : 2 + 0 ≤ _), (by decide : 6 + 0 ≤ _)⟩)
          dsimp only [Pt.U, Pt.locs, Pt.cells, Pt.slots] at X29 l29 y29 z29 st29 hQ29
          subst l29 y29 z29
          obtain ⟨rfl, N29q, K29⟩ := hQ29
          have f30_0 := Nat.le_trans f24_0 K29.1
          have f30_1 := f24_1.keep K29
          have f30_2 := f24_2.keep K29 nin0
          have f30_3 := f24_3.keep K29 nin0
          have N29 := Fr.app N23 N29q
          refine Wp.back (U' := (T29.setTop (mkF m 341 #[.val (.int p0), .val (.int p1), .val (.long q2), .second, .val (.int (2 : Int32)), .val (.long mm), .second, .val (.long ((144115188075855872 : Int64) / mm)), .second, .val (.long (mm * mm)), .second, .val (.ref b19), .val (.long (bb).toInt64), .second, .val (.long ((mm * mm) - (1 : Int64))), .second, .val (.long cc), .second, .val (.long ((cc / (2 : Int64)) + (0 : Int64))), .second, .val (.long (((cc / (2 : Int64)) + (0 : Int64)) * (bb).toInt64)), .second, .val (.long (((((cc / (2 : Int64)) + (0 : Int64)) * (bb).toInt64) / (8 : Int64)) + (1 : Int64))), .second] [(.long ((((((cc + (2 : Int64)) - (1 : Int64)) / (2 : Int64)) * (bb).toInt64) + (7 : Int64)) / (8 : Int64)))]))) (fun t k => st29.trans k) ?_
          refine Wp.back (U' := (T29.setTop (mkF m 352 #[.val (.int p0), .val (.int p1), .val (.long q2), .second, .val (.int (2 : Int32)), .val (.long mm), .second, .val (.long ((144115188075855872 : Int64) / mm)), .second, .val (.long (mm * mm)), .second, .val (.ref b19), .val (.long (bb).toInt64), .second, .val (.long ((mm * mm) - (1 : Int64))), .second, .val (.long cc), .second, .val (.long ((cc / (2 : Int64)) + (0 : Int64))), .second, .val (.long (((cc / (2 : Int64)) + (0 : Int64)) * (bb).toInt64)), .second, .val (.long (((((cc / (2 : Int64)) + (0 : Int64)) * (bb).toInt64) / (8 : Int64)) + (1 : Int64))), .second] [(.int (1 : Int32))]))) (fun t k => XS.lload X29.here hx rfl (hb hby at_341) rfl (XS.lcmp X29.here hx rfl (hb hby at_343) rfl (XS.ifNo X29.here hx rfl (hb hby at_344) rfl ((if0 _ _).trans (teq ((lw_eq ((((((cc + (2 : Int64)) - (1 : Int64)) / (2 : Int64)) * (bb).toInt64) + (7 : Int64)) / (8 : Int64)) (((((cc / (2 : Int64)) + (0 : Int64)) * (bb).toInt64) / (8 : Int64)) + (1 : Int64))).mpr (own_f2_tf hB.1 hc c289_25 c322_26))).2) (XT.iconstV X29.here hx rfl (1 : Int32) (hb hby at_347) (by decide) (XS.goto X29.here hx rfl (pc0 := 348) (pc' := 352) rfl (hb hby at_348) (by decide) (by decide) k))))) ?_
          obtain ⟨fs, hr, hrun, hended, hW, hsame⟩ := X29.leave (v := (some (.int (1 : Int32)))) (fun h => by rw [hret] at h; cases h)
          refine Wp.done (retN X29 hx (t := .boolean) hret (by simp) (hb hby at_352) hr) hrun hended ⟨_, _, rfl, ?_, ⟨_, rfl⟩, hW, hsame.mono (by decide) (by decide)⟩
          show QL n0 _ T29.heap _
          exact ⟨rfl, N29⟩
      · refine Wp.back (U' := (T23.setTop (mkF m 313 #[.val (.int p0), .val (.int p1), .val (.long q2), .second, .val (.int (2 : Int32)), .val (.long mm), .second, .val (.long ((144115188075855872 : Int64) / mm)), .second, .val (.long (mm * mm)), .second, .val (.ref b19), .val (.long (bb).toInt64), .second, .val (.long ((mm * mm) - (1 : Int64))), .second, .val (.long cc), .second, .val (.long ((cc / (2 : Int64)) + (1 : Int64))), .second, .val (.long (((cc / (2 : Int64)) + (1 : Int64)) * (bb).toInt64)), .second, .unset, .unset] [(.long (8 : Int64)), (.long (((cc / (2 : Int64)) + (1 : Int64)) * (bb).toInt64))]))) (fun t k => XS.ifNo X23.here hx rfl (hb hby at_289) rfl ((if0 _ _).trans (feq (fun q => c289_25 ((lw_eq (cc - (cc / (2 : Int64)) * (2 : Int64)) (0 : Int64)).mp q))).1) (XT.iconstV X23.here hx rfl (1 : Int32) (hb hby at_292) (by decide) (XS.goto X23.here hx rfl (pc0 := 293) (pc' := 297) rfl (hb hby at_293) (by decide) (by decide) (XS.i2l X23.here hx rfl (hb hby at_297) rfl (XS.ladd X23.here hx rfl (hb hby at_298) rfl (XS.lstore X23.here hx rfl (hb hby at_299) rfl (l' := #[.val (.int p0), .val (.int p1), .val (.long q2), .second, .val (.int (2 : Int32)), .val (.long mm), .second, .val (.long ((144115188075855872 : Int64) / mm)), .second, .val (.long (mm * mm)), .second, .val (.ref b19), .val (.long (bb).toInt64), .second, .val (.long ((mm * mm) - (1 : Int64))), .second, .val (.long cc), .second, .val (.long ((cc / (2 : Int64)) + (1 : Int64))), .second, .unset, .unset, .unset, .unset]) rfl (XS.lload X23.here hx rfl (hb hby at_301) rfl (XS.lload X23.here hx rfl (hb hby at_303) rfl (XS.lmul X23.here hx rfl (hb hby at_305) rfl (XS.lstore X23.here hx rfl (hb hby at_306) rfl (l' := #[.val (.int p0), .val (.int p1), .val (.long q2), .second, .val (.int (2 : Int32)), .val (.long mm), .second, .val (.long ((144115188075855872 : Int64) / mm)), .second, .val (.long (mm * mm)), .second, .val (.ref b19), .val (.long (bb).toInt64), .second, .val (.long ((mm * mm) - (1 : Int64))), .second, .val (.long cc), .second, .val (.long ((cc / (2 : Int64)) + (1 : Int64))), .second, .val (.long (((cc / (2 : Int64)) + (1 : Int64)) * (bb).toInt64)), .second, .unset, .unset]) rfl (XS.lload X23.here hx rfl (hb hby at_308) rfl (Jvm.Stand.ldc2J X23 hx hown (mvT hZ (hw _ (List.mem_of_getElem? (i := 30) rfl))) rfl (hb hby at_310) k)))))))))))) ?_
        refine Wp.back (U' := (T23.setTop (mkF m 322 #[.val (.int p0), .val (.int p1), .val (.long q2), .second, .val (.int (2 : Int32)), .val (.long mm), .second, .val (.long ((144115188075855872 : Int64) / mm)), .second, .val (.long (mm * mm)), .second, .val (.ref b19), .val (.long (bb).toInt64), .second, .val (.long ((mm * mm) - (1 : Int64))), .second, .val (.long cc), .second, .val (.long ((cc / (2 : Int64)) + (1 : Int64))), .second, .val (.long (((cc / (2 : Int64)) + (1 : Int64)) * (bb).toInt64)), .second, .unset, .unset] [(.int (lcmpW ((((cc / (2 : Int64)) + (1 : Int64)) * (bb).toInt64) - ((((cc / (2 : Int64)) + (1 : Int64)) * (bb).toInt64) / (8 : Int64)) * (8 : Int64)) (0 : Int64))), (.long ((((cc / (2 : Int64)) + (1 : Int64)) * (bb).toInt64) / (8 : Int64)))]))) (fun t k => XS.ldiv X23.here hx rfl (hb hby at_313) rfl (by decide) (XS.lload X23.here hx rfl (hb hby at_314) rfl (Jvm.Stand.ldc2J X23 hx hown (mvT hZ (hw _ (List.mem_of_getElem? (i := 30) rfl))) rfl (hb hby at_316) (XS.lrem X23.here hx rfl (hb hby at_319) rfl (by decide) (XT.lconstV X23.here hx rfl (0 : Int64) (hb hby at_320) (by decide) (XS.lcmp X23.here hx rfl (hb hby at_321) rfl k)))))) ?_
        by_cases c322_31 : ((((cc / (2 : Int64)) + (1 : Int64)) * (bb).toInt64) - ((((cc / (2 : Int64)) + (1 : Int64)) * (bb).toInt64) / (8 : Int64)) * (8 : Int64)) = (0 : Int64)
        · refine Wp.back (U' := (T23.setTop (mkF m 338 #[.val (.int p0), .val (.int p1), .val (.long q2), .second, .val (.int (2 : Int32)), .val (.long mm), .second, .val (.long ((144115188075855872 : Int64) / mm)), .second, .val (.long (mm * mm)), .second, .val (.ref b19), .val (.long (bb).toInt64), .second, .val (.long ((mm * mm) - (1 : Int64))), .second, .val (.long cc), .second, .val (.long ((cc / (2 : Int64)) + (1 : Int64))), .second, .val (.long (((cc / (2 : Int64)) + (1 : Int64)) * (bb).toInt64)), .second, .val (.long (((((cc / (2 : Int64)) + (1 : Int64)) * (bb).toInt64) / (8 : Int64)) + (0 : Int64))), .second] [(.long cc), (.ref b19)]))) (fun t k => XS.ifYes X23.here hx rfl (pc0 := 322) (pc' := 329) rfl (hb hby at_322) rfl ((if0 _ _).trans (teq ((lw_eq ((((cc / (2 : Int64)) + (1 : Int64)) * (bb).toInt64) - ((((cc / (2 : Int64)) + (1 : Int64)) * (bb).toInt64) / (8 : Int64)) * (8 : Int64)) (0 : Int64)).mpr c322_31)).1) (by decide) (by decide) (XT.iconstV X23.here hx rfl (0 : Int32) (hb hby at_329) (by decide) (XS.i2l X23.here hx rfl (hb hby at_330) rfl (XS.ladd X23.here hx rfl (hb hby at_331) rfl (XS.lstore X23.here hx rfl (hb hby at_332) rfl (l' := #[.val (.int p0), .val (.int p1), .val (.long q2), .second, .val (.int (2 : Int32)), .val (.long mm), .second, .val (.long ((144115188075855872 : Int64) / mm)), .second, .val (.long (mm * mm)), .second, .val (.ref b19), .val (.long (bb).toInt64), .second, .val (.long ((mm * mm) - (1 : Int64))), .second, .val (.long cc), .second, .val (.long ((cc / (2 : Int64)) + (1 : Int64))), .second, .val (.long (((cc / (2 : Int64)) + (1 : Int64)) * (bb).toInt64)), .second, .val (.long (((((cc / (2 : Int64)) + (1 : Int64)) * (bb).toInt64) / (8 : Int64)) + (0 : Int64))), .second]) rfl (XS.aload X23.here hx rfl (hb hby at_334) rfl rfl (XS.lload X23.here hx rfl (hb hby at_336) rfl k))))))) ?_
          obtain ⟨cq32, kq32, q32a, q32b, q32c⟩ := isOf hZ rfl f24_1
          obtain ⟨_, _, ⟨T32, L32, k32, n32⟩, -, X32, ⟨Lc32, hQ32, l32, y32, z32⟩, st32⟩ := X23.virtualBack hx (y := (⟨"com/example/known_leaks/knownleaks/CellPacking", "bytes", "(J)J"⟩ : MethodName)) (z := (⟨"com/example/known_leaks/knownleaks/CellPacking", "bytes", "(J)J"⟩ : MethodName)) hown (mvT hZ (hw _ (List.mem_of_getElem? (i := 31) rfl))) (mvT hZ (hw _ (List.mem_of_getElem? (i := 32) rfl))) (notFace_of_selects (args := #[]) (mvT hZ (hw _ (List.mem_of_getElem? (i := 34) rfl)))) (mvT hZ (hw _ (List.mem_of_getElem? (i := 34) rfl))) (mvT hZ (hw _ (List.mem_of_getElem? (i := 33) rfl))) (by decide) (backOf (W := 0) (rm_by2 l Z a0 hw [] b19 cc bb T23.heap n0 f24_0 f24_2 f24_3) hZ (hw _ (List.mem_of_getElem? (i := 35) rfl)) (hw _ (List.mem_of_getElem? (i := 4) rfl)) (by decide) (by decide)) q32a q32c (g := (mkF m 338 #[.val (.int p0), .val (.int p1), .val (.long q2), .second, .val (.int (2 : Int32)), .val (.long mm), .second, .val (.long ((144115188075855872 : Int64) / mm)), .second, .val (.long (mm * mm)), .second, .val (.ref b19), .val (.long (bb).toInt64), .second, .val (.long ((mm * mm) - (1 : Int64))), .second, .val (.long cc), .second, .val (.long ((cc / (2 : Int64)) + (1 : Int64))), .second, .val (.long (((cc / (2 : Int64)) + (1 : Int64)) * (bb).toInt64)), .second, .val (.long (((((cc / (2 : Int64)) + (1 : Int64)) * (bb).toInt64) / (8 : Int64)) + (0 : Int64))), .second] [(.long cc), (.ref b19)])) rfl (by rw [hml]; rfl) (Steps.refl _) (argsL := [(.long cc)]) (rest := []) (lenOf pd0_1 rfl) rfl (by show 2 * 0 + _ ≤ _; exact Nat.le_of_eq rfl) (hb hby at_338) (fun _ _ => ⟨rfl, rfl, (by decide : 2 + 0 ≤ _), (by decide : 6 + 0 ≤ _)⟩)
          dsimp only [Pt.U, Pt.locs, Pt.cells, Pt.slots] at X32 l32 y32 z32 st32 hQ32
          subst l32 y32 z32
          obtain ⟨rfl, N32q, K32⟩ := hQ32
          have f33_0 := Nat.le_trans f24_0 K32.1
          have f33_1 := f24_1.keep K32
          have f33_2 := f24_2.keep K32 nin0
          have f33_3 := f24_3.keep K32 nin0
          have N32 := Fr.app N23 N32q
          refine Wp.back (U' := (T32.setTop (mkF m 341 #[.val (.int p0), .val (.int p1), .val (.long q2), .second, .val (.int (2 : Int32)), .val (.long mm), .second, .val (.long ((144115188075855872 : Int64) / mm)), .second, .val (.long (mm * mm)), .second, .val (.ref b19), .val (.long (bb).toInt64), .second, .val (.long ((mm * mm) - (1 : Int64))), .second, .val (.long cc), .second, .val (.long ((cc / (2 : Int64)) + (1 : Int64))), .second, .val (.long (((cc / (2 : Int64)) + (1 : Int64)) * (bb).toInt64)), .second, .val (.long (((((cc / (2 : Int64)) + (1 : Int64)) * (bb).toInt64) / (8 : Int64)) + (0 : Int64))), .second] [(.long ((((((cc + (2 : Int64)) - (1 : Int64)) / (2 : Int64)) * (bb).toInt64) + (7 : Int64)) / (8 : Int64)))]))) (fun t k => st32.trans k) ?_
          refine Wp.back (U' := (T32.setTop (mkF m 352 #[.val (.int p0), .val (.int p1), .val (.long q2), .second, .val (.int (2 : Int32)), .val (.long mm), .second, .val (.long ((144115188075855872 : Int64) / mm)), .second, .val (.long (mm * mm)), .second, .val (.ref b19), .val (.long (bb).toInt64), .second, .val (.long ((mm * mm) - (1 : Int64))), .second, .val (.long cc), .second, .val (.long ((cc / (2 : Int64)) + (1 : Int64))), .second, .val (.long (((cc / (2 : Int64)) + (1 : Int64)) * (bb).toInt64)), .second, .val (.long (((((cc / (2 : Int64)) + (1 : Int64)) * (bb).toInt64) / (8 : Int64)) + (0 : Int64))), .second] [(.int (1 : Int32))]))) (fun t k => XS.lload X32.here hx rfl (hb hby at_341) rfl (XS.lcmp X32.here hx rfl (hb hby at_343) rfl (XS.ifNo X32.here hx rfl (hb hby at_344) rfl ((if0 _ _).trans (teq ((lw_eq ((((((cc + (2 : Int64)) - (1 : Int64)) / (2 : Int64)) * (bb).toInt64) + (7 : Int64)) / (8 : Int64)) (((((cc / (2 : Int64)) + (1 : Int64)) * (bb).toInt64) / (8 : Int64)) + (0 : Int64))).mpr (own_f2_ft hB.1 hc c289_25 c322_31))).2) (XT.iconstV X32.here hx rfl (1 : Int32) (hb hby at_347) (by decide) (XS.goto X32.here hx rfl (pc0 := 348) (pc' := 352) rfl (hb hby at_348) (by decide) (by decide) k))))) ?_
          obtain ⟨fs, hr, hrun, hended, hW, hsame⟩ := X32.leave (v := (some (.int (1 : Int32)))) (fun h => by rw [hret] at h; cases h)
          refine Wp.done (retN X32 hx (t := .boolean) hret (by simp) (hb hby at_352) hr) hrun hended ⟨_, _, rfl, ?_, ⟨_, rfl⟩, hW, hsame.mono (by decide) (by decide)⟩
          show QL n0 _ T32.heap _
          exact ⟨rfl, N32⟩
        · refine Wp.back (U' := (T23.setTop (mkF m 338 #[.val (.int p0), .val (.int p1), .val (.long q2), .second, .val (.int (2 : Int32)), .val (.long mm), .second, .val (.long ((144115188075855872 : Int64) / mm)), .second, .val (.long (mm * mm)), .second, .val (.ref b19), .val (.long (bb).toInt64), .second, .val (.long ((mm * mm) - (1 : Int64))), .second, .val (.long cc), .second, .val (.long ((cc / (2 : Int64)) + (1 : Int64))), .second, .val (.long (((cc / (2 : Int64)) + (1 : Int64)) * (bb).toInt64)), .second, .val (.long (((((cc / (2 : Int64)) + (1 : Int64)) * (bb).toInt64) / (8 : Int64)) + (1 : Int64))), .second] [(.long cc), (.ref b19)]))) (fun t k => XS.ifNo X23.here hx rfl (hb hby at_322) rfl ((if0 _ _).trans (feq (fun q => c322_31 ((lw_eq ((((cc / (2 : Int64)) + (1 : Int64)) * (bb).toInt64) - ((((cc / (2 : Int64)) + (1 : Int64)) * (bb).toInt64) / (8 : Int64)) * (8 : Int64)) (0 : Int64)).mp q))).1) (XT.iconstV X23.here hx rfl (1 : Int32) (hb hby at_325) (by decide) (XS.goto X23.here hx rfl (pc0 := 326) (pc' := 330) rfl (hb hby at_326) (by decide) (by decide) (XS.i2l X23.here hx rfl (hb hby at_330) rfl (XS.ladd X23.here hx rfl (hb hby at_331) rfl (XS.lstore X23.here hx rfl (hb hby at_332) rfl (l' := #[.val (.int p0), .val (.int p1), .val (.long q2), .second, .val (.int (2 : Int32)), .val (.long mm), .second, .val (.long ((144115188075855872 : Int64) / mm)), .second, .val (.long (mm * mm)), .second, .val (.ref b19), .val (.long (bb).toInt64), .second, .val (.long ((mm * mm) - (1 : Int64))), .second, .val (.long cc), .second, .val (.long ((cc / (2 : Int64)) + (1 : Int64))), .second, .val (.long (((cc / (2 : Int64)) + (1 : Int64)) * (bb).toInt64)), .second, .val (.long (((((cc / (2 : Int64)) + (1 : Int64)) * (bb).toInt64) / (8 : Int64)) + (1 : Int64))), .second]) rfl (XS.aload X23.here hx rfl (hb hby at_334) rfl rfl (XS.lload X23.here hx rfl (hb hby at_336) rfl k)))))))) ?_
          obtain ⟨cq34, kq34, q34a, q34b, q34c⟩ := isOf hZ rfl f24_1
          obtain ⟨_, _, ⟨T34, L34, k34, n34⟩, -, X34, ⟨Lc34, hQ34, l34, y34, z34⟩, st34⟩ := X23.virtualBack hx (y := (⟨"com/example/known_leaks/knownleaks/CellPacking", "bytes", "(J)J"⟩ : MethodName)) (z := (⟨"com/example/known_leaks/knownleaks/CellPacking", "bytes", "(J)J"⟩ : MethodName)) hown (mvT hZ (hw _ (List.mem_of_getElem? (i := 31) rfl))) (mvT hZ (hw _ (List.mem_of_getElem? (i := 32) rfl))) (notFace_of_selects (args := #[]) (mvT hZ (hw _ (List.mem_of_getElem? (i := 34) rfl)))) (mvT hZ (hw _ (List.mem_of_getElem? (i := 34) rfl))) (mvT hZ (hw _ (List.mem_of_getElem? (i := 33) rfl))) (by decide) (backOf (W := 0) (rm_by2 l Z a0 hw [] b19 cc bb T23.heap n0 f24_0 f24_2 f24_3) hZ (hw _ (List.mem_of_getElem? (i := 35) rfl)) (hw _ (List.mem_of_getElem? (i := 4) rfl)) (by decide) (by decide)) q34a q34c (g := (mkF m 338 #[.val (.int p0), .val (.int p1), .val (.long q2), .second, .val (.int (2 : Int32)), .val (.long mm), .second, .val (.long ((144115188075855872 : Int64) / mm)), .second, .val (.long (mm * mm)), .second, .val (.ref b19), .val (.long (bb).toInt64), .second, .val (.long ((mm * mm) - (1 : Int64))), .second, .val (.long cc), .second, .val (.long ((cc / (2 : Int64)) + (1 : Int64))), .second, .val (.long (((cc / (2 : Int64)) + (1 : Int64)) * (bb).toInt64)), .second, .val (.long (((((cc / (2 : Int64)) + (1 : Int64)) * (bb).toInt64) / (8 : Int64)) + (1 : Int64))), .second] [(.long cc), (.ref b19)])) rfl (by rw [hml]; rfl) (Steps.refl _) (argsL := [(.long cc)]) (rest := []) (lenOf pd0_1 rfl) rfl (by show 2 * 0 + _ ≤ _; exact Nat.le_of_eq rfl) (hb hby at_338) (fun _ _ => ⟨rfl, rfl, (by decide : 2 + 0 ≤ _), (by decide : 6 + 0 ≤ _)⟩)
          dsimp only [Pt.U, Pt.locs, Pt.cells, Pt.slots] at X34 l34 y34 z34 st34 hQ34
          subst l34 y34 z34
          obtain ⟨rfl, N34q, K34⟩ := hQ34
          have f35_0 := Nat.le_trans f24_0 K34.1
          have f35_1 := f24_1.keep K34
          have f35_2 := f24_2.keep K34 nin0
          have f35_3 := f24_3.keep K34 nin0
          have N34 := Fr.app N23 N34q
          refine Wp.back (U' := (T34.setTop (mkF m 341 #[.val (.int p0), .val (.int p1), .val (.long q2), .second, .val (.int (2 : Int32)), .val (.long mm), .second, .val (.long ((144115188075855872 : Int64) / mm)), .second, .val (.long (mm * mm)), .second, .val (.ref b19), .val (.long (bb).toInt64), .second, .val (.long ((mm * mm) - (1 : Int64))), .second, .val (.long cc), .second, .val (.long ((cc / (2 : Int64)) + (1 : Int64))), .second, .val (.long (((cc / (2 : Int64)) + (1 : Int64)) * (bb).toInt64)), .second, .val (.long (((((cc / (2 : Int64)) + (1 : Int64)) * (bb).toInt64) / (8 : Int64)) + (1 : Int64))), .second] [(.long ((((((cc + (2 : Int64)) - (1 : Int64)) / (2 : Int64)) * (bb).toInt64) + (7 : Int64)) / (8 : Int64)))]))) (fun t k => st34.trans k) ?_
          refine Wp.back (U' := (T34.setTop (mkF m 352 #[.val (.int p0), .val (.int p1), .val (.long q2), .second, .val (.int (2 : Int32)), .val (.long mm), .second, .val (.long ((144115188075855872 : Int64) / mm)), .second, .val (.long (mm * mm)), .second, .val (.ref b19), .val (.long (bb).toInt64), .second, .val (.long ((mm * mm) - (1 : Int64))), .second, .val (.long cc), .second, .val (.long ((cc / (2 : Int64)) + (1 : Int64))), .second, .val (.long (((cc / (2 : Int64)) + (1 : Int64)) * (bb).toInt64)), .second, .val (.long (((((cc / (2 : Int64)) + (1 : Int64)) * (bb).toInt64) / (8 : Int64)) + (1 : Int64))), .second] [(.int (1 : Int32))]))) (fun t k => XS.lload X34.here hx rfl (hb hby at_341) rfl (XS.lcmp X34.here hx rfl (hb hby at_343) rfl (XS.ifNo X34.here hx rfl (hb hby at_344) rfl ((if0 _ _).trans (teq ((lw_eq ((((((cc + (2 : Int64)) - (1 : Int64)) / (2 : Int64)) * (bb).toInt64) + (7 : Int64)) / (8 : Int64)) (((((cc / (2 : Int64)) + (1 : Int64)) * (bb).toInt64) / (8 : Int64)) + (1 : Int64))).mpr (own_f2_ff hB.1 hc c289_25 c322_31))).2) (XT.iconstV X34.here hx rfl (1 : Int32) (hb hby at_347) (by decide) (XS.goto X34.here hx rfl (pc0 := 348) (pc' := 352) rfl (hb hby at_348) (by decide) (by decide) k))))) ?_
          obtain ⟨fs, hr, hrun, hended, hW, hsame⟩ := X34.leave (v := (some (.int (1 : Int32)))) (fun h => by rw [hret] at h; cases h)
          refine Wp.done (retN X34 hx (t := .boolean) hret (by simp) (hb hby at_352) hr) hrun hended ⟨_, _, rfl, ?_, ⟨_, rfl⟩, hW, hsame.mono (by decide) (by decide)⟩
          show QL n0 _ T34.heap _
          exact ⟨rfl, N34⟩
  · rw [hk3]
    refine Wp.back (U' := (s₁.setTop (mkF m 62 #[.val (.int p0), .val (.int p1), .val (.long q2), .second, .val (.int (3 : Int32)), .unset, .unset, .unset, .unset, .unset, .unset, .unset, .unset, .unset, .unset, .unset, .unset, .unset, .unset, .unset, .unset, .unset, .unset, .unset] [(.int (524287 : Int32)), (.int p0), (.long (2 : Int64))]))) (fun t k => XS.iload X0.here hx rfl (hb hby at_7) rfl (XT.iconstV X0.here hx rfl (1 : Int32) (hb hby at_9) (by decide) (XS.icmpYes X0.here hx rfl (pc0 := 10) (pc' := 30) rfl (hb hby at_10) rfl (feq (by decide)).2 (by decide) (by decide) (XS.iload X0.here hx rfl (hb hby at_30) rfl (XT.iconstV X0.here hx rfl (2 : Int32) (hb hby at_32) (by decide) (XS.icmpYes X0.here hx rfl (pc0 := 33) (pc' := 50) rfl (hb hby at_33) rfl (feq (by decide)).2 (by decide) (by decide) (XS.iload X0.here hx rfl (hb hby at_50) rfl (XT.iconstV X0.here hx rfl (3 : Int32) (hb hby at_52) (by decide) (XS.icmpNo X0.here hx rfl (hb hby at_53) rfl (teq (by decide)).2 (Jvm.Stand.ldc2J X0 hx hown (mvT hZ (hw _ (List.mem_of_getElem? (i := 0) rfl))) rfl (hb hby at_56) (XS.iloadN X0.here hx rfl (hb hby at_59) rfl (Jvm.Stand.ldcI X0 hx hown (mvT hZ (hw _ (List.mem_of_getElem? (i := 42) rfl))) rfl (hb hby at_60) k)))))))))))) ?_
    refine Wp.back (U' := (s₁.setTop (mkF m 82 #[.val (.int p0), .val (.int p1), .val (.long q2), .second, .val (.int (3 : Int32)), .val (.long ((2 : Int64) + ((p0 &&& (524287 : Int32))).toInt64)), .second, .unset, .unset, .unset, .unset, .unset, .unset, .unset, .unset, .unset, .unset, .unset, .unset, .unset, .unset, .unset, .unset, .unset] []))) (fun t k => XS.iand X0.here hx rfl (hb hby at_62) rfl (XS.i2l X0.here hx rfl (hb hby at_63) rfl (XS.ladd X0.here hx rfl (hb hby at_64) rfl (XS.lstore X0.here hx rfl (hb hby at_65) rfl (l' := #[.val (.int p0), .val (.int p1), .val (.long q2), .second, .val (.int (3 : Int32)), .val (.long ((2 : Int64) + ((p0 &&& (524287 : Int32))).toInt64)), .second, .unset, .unset, .unset, .unset, .unset, .unset, .unset, .unset, .unset, .unset, .unset, .unset, .unset, .unset, .unset, .unset, .unset]) rfl (XS.goto X0.here hx rfl (pc0 := 67) (pc' := 82) rfl (hb hby at_67) (by decide) (by decide) k))))) ?_
    have hm : 2 ≤ (((2 : Int64) + ((p0 &&& (524287 : Int32))).toInt64)).toInt ∧ (((2 : Int64) + ((p0 &&& (524287 : Int32))).toInt64)).toInt < 2147483648 := own_m3 p0
    generalize ((2 : Int64) + ((p0 &&& (524287 : Int32))).toInt64) = mm at hm ⊢
    refine Wp.back (U' := (s₁.setTop (mkF m 101 #[.val (.int p0), .val (.int p1), .val (.long q2), .second, .val (.int (3 : Int32)), .val (.long mm), .second, .val (.long ((144115188075855872 : Int64) / mm)), .second, .unset, .unset, .unset, .unset, .unset, .unset, .unset, .unset, .unset, .unset, .unset, .unset, .unset, .unset, .unset] [(.int (lcmpW mm ((144115188075855872 : Int64) / mm)))]))) (fun t k => Jvm.Stand.ldc2J X0 hx hown (mvT hZ (hw _ (List.mem_of_getElem? (i := 1) rfl))) rfl (hb hby at_82) (XS.lload X0.here hx rfl (hb hby at_85) rfl (XS.ldiv X0.here hx rfl (hb hby at_87) rfl (own_mz hm) (XS.lstore X0.here hx rfl (hb hby at_88) rfl (l' := #[.val (.int p0), .val (.int p1), .val (.long q2), .second, .val (.int (3 : Int32)), .val (.long mm), .second, .val (.long ((144115188075855872 : Int64) / mm)), .second, .unset, .unset, .unset, .unset, .unset, .unset, .unset, .unset, .unset, .unset, .unset, .unset, .unset, .unset, .unset]) rfl (XS.iload X0.here hx rfl (hb hby at_90) rfl (XT.iconstV X0.here hx rfl (2 : Int32) (hb hby at_92) (by decide) (XS.icmpNo X0.here hx rfl (hb hby at_93) rfl (flt (by decide)).1 (XS.lload X0.here hx rfl (hb hby at_96) rfl (XS.lload X0.here hx rfl (hb hby at_98) rfl (XS.lcmp X0.here hx rfl (hb hby at_100) rfl k)))))))))) ?_
    by_cases c101_36 : ((144115188075855872 : Int64) / mm) < mm
    · refine Wp.back (U' := (s₁.setTop (mkF m 105 #[.val (.int p0), .val (.int p1), .val (.long q2), .second, .val (.int (3 : Int32)), .val (.long mm), .second, .val (.long ((144115188075855872 : Int64) / mm)), .second, .unset, .unset, .unset, .unset, .unset, .unset, .unset, .unset, .unset, .unset, .unset, .unset, .unset, .unset, .unset] [(.int (1 : Int32))]))) (fun t k => XS.ifNo X0.here hx rfl (hb hby at_101) rfl ((if0 _ _).trans (tlt ((lw_gt mm ((144115188075855872 : Int64) / mm)).mpr c101_36)).2.2.2) (XT.iconstV X0.here hx rfl (1 : Int32) (hb hby at_104) (by decide) k)) ?_
      obtain ⟨fs, hr, hrun, hended, hW, hsame⟩ := X0.leave (v := (some (.int (1 : Int32)))) (fun h => by rw [hret] at h; cases h)
      refine Wp.done (retN X0 hx (t := .boolean) hret (by simp) (hb hby at_105) hr) hrun hended ⟨_, _, rfl, ?_, ⟨_, rfl⟩, hW, hsame.mono (by decide) (by decide)⟩
      show QL n0 _ s₁.heap _
      exact ⟨rfl, N0⟩
    · refine Wp.back (U' := (s₁.setTop (mkF m 120 #[.val (.int p0), .val (.int p1), .val (.long q2), .second, .val (.int (3 : Int32)), .val (.long mm), .second, .val (.long ((144115188075855872 : Int64) / mm)), .second, .unset, .unset, .unset, .unset, .unset, .unset, .unset, .unset, .unset, .unset, .unset, .unset, .unset, .unset, .unset] [(.int (lcmpW (mm * mm) ((144115188075855872 : Int64) / mm)))]))) (fun t k => XS.ifYes X0.here hx rfl (pc0 := 101) (pc' := 106) rfl (hb hby at_101) rfl ((if0 _ _).trans (flt (fun q => c101_36 ((lw_gt mm ((144115188075855872 : Int64) / mm)).mp q))).2.2.2) (by decide) (by decide) (XS.iload X0.here hx rfl (hb hby at_106) rfl (XT.iconstV X0.here hx rfl (3 : Int32) (hb hby at_108) (by decide) (XS.icmpNo X0.here hx rfl (hb hby at_109) rfl (flt (by decide)).1 (XS.lload X0.here hx rfl (hb hby at_112) rfl (XS.lload X0.here hx rfl (hb hby at_114) rfl (XS.lmul X0.here hx rfl (hb hby at_116) rfl (XS.lload X0.here hx rfl (hb hby at_117) rfl (XS.lcmp X0.here hx rfl (hb hby at_119) rfl k))))))))) ?_
      by_cases c120_37 : ((144115188075855872 : Int64) / mm) < (mm * mm)
      · refine Wp.back (U' := (s₁.setTop (mkF m 124 #[.val (.int p0), .val (.int p1), .val (.long q2), .second, .val (.int (3 : Int32)), .val (.long mm), .second, .val (.long ((144115188075855872 : Int64) / mm)), .second, .unset, .unset, .unset, .unset, .unset, .unset, .unset, .unset, .unset, .unset, .unset, .unset, .unset, .unset, .unset] [(.int (1 : Int32))]))) (fun t k => XS.ifNo X0.here hx rfl (hb hby at_120) rfl ((if0 _ _).trans (tlt ((lw_gt (mm * mm) ((144115188075855872 : Int64) / mm)).mpr c120_37)).2.2.2) (XT.iconstV X0.here hx rfl (1 : Int32) (hb hby at_123) (by decide) k)) ?_
        obtain ⟨fs, hr, hrun, hended, hW, hsame⟩ := X0.leave (v := (some (.int (1 : Int32)))) (fun h => by rw [hret] at h; cases h)
        refine Wp.done (retN X0 hx (t := .boolean) hret (by simp) (hb hby at_124) hr) hrun hended ⟨_, _, rfl, ?_, ⟨_, rfl⟩, hW, hsame.mono (by decide) (by decide)⟩
        show QL n0 _ s₁.heap _
        exact ⟨rfl, N0⟩
      · refine Wp.back (U' := (s₁.setTop (mkF m 162 #[.val (.int p0), .val (.int p1), .val (.long q2), .second, .val (.int (3 : Int32)), .val (.long mm), .second, .val (.long ((144115188075855872 : Int64) / mm)), .second, .val (.long mm), .second, .unset, .unset, .unset, .unset, .unset, .unset, .unset, .unset, .unset, .unset, .unset, .unset, .unset] [(.long (mm * mm))]))) (fun t k => XS.ifYes X0.here hx rfl (pc0 := 120) (pc' := 125) rfl (hb hby at_120) rfl ((if0 _ _).trans (flt (fun q => c120_37 ((lw_gt (mm * mm) ((144115188075855872 : Int64) / mm)).mp q))).2.2.2) (by decide) (by decide) (XS.iload X0.here hx rfl (hb hby at_125) rfl (XT.iconstV X0.here hx rfl (4 : Int32) (hb hby at_127) (by decide) (XS.icmpYes X0.here hx rfl (pc0 := 128) (pc' := 147) rfl (hb hby at_128) rfl (tlt (by decide)).1 (by decide) (by decide) (XS.lload X0.here hx rfl (hb hby at_147) rfl (XS.lstore X0.here hx rfl (hb hby at_149) rfl (l' := #[.val (.int p0), .val (.int p1), .val (.long q2), .second, .val (.int (3 : Int32)), .val (.long mm), .second, .val (.long ((144115188075855872 : Int64) / mm)), .second, .val (.long mm), .second, .unset, .unset, .unset, .unset, .unset, .unset, .unset, .unset, .unset, .unset, .unset, .unset, .unset]) rfl (XS.iload X0.here hx rfl (hb hby at_151) rfl (XT.iconstV X0.here hx rfl (2 : Int32) (hb hby at_153) (by decide) (XS.icmpNo X0.here hx rfl (hb hby at_154) rfl (flt (by decide)).1 (XS.lload X0.here hx rfl (hb hby at_157) rfl (XS.lload X0.here hx rfl (hb hby at_159) rfl (XS.lmul X0.here hx rfl (hb hby at_161) rfl k)))))))))))) ?_
        refine Wp.back (U' := (s₁.setTop (mkF m 190 #[.val (.int p0), .val (.int p1), .val (.long q2), .second, .val (.int (3 : Int32)), .val (.long mm), .second, .val (.long ((144115188075855872 : Int64) / mm)), .second, .val (.long ((mm * mm) * mm)), .second, .unset, .unset, .unset, .unset, .unset, .unset, .unset, .unset, .unset, .unset, .unset, .unset, .unset] []))) (fun t k => XS.lstore X0.here hx rfl (hb hby at_162) rfl (l' := #[.val (.int p0), .val (.int p1), .val (.long q2), .second, .val (.int (3 : Int32)), .val (.long mm), .second, .val (.long ((144115188075855872 : Int64) / mm)), .second, .val (.long (mm * mm)), .second, .unset, .unset, .unset, .unset, .unset, .unset, .unset, .unset, .unset, .unset, .unset, .unset, .unset]) rfl (XS.iload X0.here hx rfl (hb hby at_164) rfl (XT.iconstV X0.here hx rfl (3 : Int32) (hb hby at_166) (by decide) (XS.icmpNo X0.here hx rfl (hb hby at_167) rfl (flt (by decide)).1 (XS.lload X0.here hx rfl (hb hby at_170) rfl (XS.lload X0.here hx rfl (hb hby at_172) rfl (XS.lmul X0.here hx rfl (hb hby at_174) rfl (XS.lstore X0.here hx rfl (hb hby at_175) rfl (l' := #[.val (.int p0), .val (.int p1), .val (.long q2), .second, .val (.int (3 : Int32)), .val (.long mm), .second, .val (.long ((144115188075855872 : Int64) / mm)), .second, .val (.long ((mm * mm) * mm)), .second, .unset, .unset, .unset, .unset, .unset, .unset, .unset, .unset, .unset, .unset, .unset, .unset, .unset]) rfl (XS.iload X0.here hx rfl (hb hby at_177) rfl (XT.iconstV X0.here hx rfl (4 : Int32) (hb hby at_179) (by decide) (XS.icmpYes X0.here hx rfl (pc0 := 180) (pc' := 190) rfl (hb hby at_180) rfl (tlt (by decide)).1 (by decide) (by decide) k))))))))))) ?_
        obtain ⟨T38, h38, X38, e38, E38, A38, D38, -, st38⟩ := newO X0 hx hZ hown (hw _ (List.mem_of_getElem? (i := 2) rfl)) (hw _ (List.mem_of_getElem? (i := 3) rfl)) (hw _ (List.mem_of_getElem? (i := 4) rfl)) e0 (g := (mkF m 190 #[.val (.int p0), .val (.int p1), .val (.long q2), .second, .val (.int (3 : Int32)), .val (.long mm), .second, .val (.long ((144115188075855872 : Int64) / mm)), .second, .val (.long ((mm * mm) * mm)), .second, .unset, .unset, .unset, .unset, .unset, .unset, .unset, .unset, .unset, .unset, .unset, .unset, .unset] [])) rfl (hb hby at_190) (by decide) (by decide)
        obtain ⟨b38, g38⟩ : ∃ z, z = h0.size := ⟨_, rfl⟩
        rw [← g38] at A38 D38 st38
        have g_b38 : n0 ≤ b38 := Nat.le_trans Z0 (Nat.le_of_eq g38.symm)
        have f39_0 := Nat.le_trans Z0 E38.1
        have F38_13 : Fld Z h38 b38 "com/example/known_leaks/knownleaks/CellPacking" "powers" "[J" .null := D38 (Or.inr (hw _ (List.mem_of_getElem? (i := 13) rfl))) (ty := (.array .long)) (by decide)
        have F38_16 : Fld Z h38 b38 "com/example/known_leaks/knownleaks/CellPacking" "modulus" "I" (.int (0 : Int32)) := D38 (Or.inr (hw _ (List.mem_of_getElem? (i := 16) rfl))) (ty := .int) (by decide)
        have F38_18 : Fld Z h38 b38 "com/example/known_leaks/knownleaks/CellPacking" "cellsPerBlock" "I" (.int (0 : Int32)) := D38 (Or.inr (hw _ (List.mem_of_getElem? (i := 18) rfl))) (ty := .int) (by decide)
        have F38_29 : Fld Z h38 b38 "com/example/known_leaks/knownleaks/CellPacking" "blockBits" "I" (.int (0 : Int32)) := D38 (Or.inr (hw _ (List.mem_of_getElem? (i := 29) rfl))) (ty := .int) (by decide)
        refine Wp.back (U' := (T38.setTop (mkF m 193 #[.val (.int p0), .val (.int p1), .val (.long q2), .second, .val (.int (3 : Int32)), .val (.long mm), .second, .val (.long ((144115188075855872 : Int64) / mm)), .second, .val (.long ((mm * mm) * mm)), .second, .unset, .unset, .unset, .unset, .unset, .unset, .unset, .unset, .unset, .unset, .unset, .unset, .unset] [(.ref b38)]))) st38 ?_
        refine Wp.back (U' := (T38.setTop (mkF m 199 #[.val (.int p0), .val (.int p1), .val (.long q2), .second, .val (.int (3 : Int32)), .val (.long mm), .second, .val (.long ((144115188075855872 : Int64) / mm)), .second, .val (.long ((mm * mm) * mm)), .second, .unset, .unset, .unset, .unset, .unset, .unset, .unset, .unset, .unset, .unset, .unset, .unset, .unset] [(.int (3 : Int32)), (.int (mm).toInt32), (.ref b38), (.ref b38)]))) (fun t k => XS.dup X38.here hx rfl (hb hby at_193) rfl rfl (XS.lload X38.here hx rfl (hb hby at_194) rfl (XS.l2i X38.here hx rfl (hb hby at_196) rfl (XS.iload X38.here hx rfl (hb hby at_197) rfl k)))) ?_
        obtain ⟨_, _, ⟨T40, L40, k40, n40⟩, -, X40, ⟨Lc40, hQ40, l40, y40, z40⟩, st40⟩ := X38.specialBack hx (y := (⟨"com/example/known_leaks/knownleaks/CellPacking", "<init>", "(II)V"⟩ : MethodName)) rfl hown (mvT hZ (hw _ (List.mem_of_getElem? (i := 5) rfl))) (mvT hZ (hw _ (List.mem_of_getElem? (i := 6) rfl))) (mvT hZ (hw _ (List.mem_of_getElem? (i := 7) rfl))) (by decide) (backOf (W := 1) (rm_ini3 l Z a0 hw [] b38 (mm).toInt32  h38 n0 f39_0 A38 F38_13 F38_16 F38_18 F38_29 g_b38 (own_c2 hm) (own_cz hm) (own_p3_0 hm c101_36 c120_37) (own_p3_1 hm c101_36 c120_37) (own_p3_2 hm c101_36 c120_37)) hZ (hw _ (List.mem_of_getElem? (i := 7) rfl)) (hw _ (List.mem_of_getElem? (i := 4) rfl)) (by decide) (by decide)) (g := (mkF m 199 #[.val (.int p0), .val (.int p1), .val (.long q2), .second, .val (.int (3 : Int32)), .val (.long mm), .second, .val (.long ((144115188075855872 : Int64) / mm)), .second, .val (.long ((mm * mm) * mm)), .second, .unset, .unset, .unset, .unset, .unset, .unset, .unset, .unset, .unset, .unset, .unset, .unset, .unset] [(.int (3 : Int32)), (.int (mm).toInt32), (.ref b38), (.ref b38)])) rfl (by rw [hml]; rfl) (Steps.refl _) (a := b38) (argsL := [(.int (mm).toInt32), (.int (3 : Int32))]) (rest := [(.ref b38)]) (lenOf pd0_0 rfl) rfl (by show 2 * 0 + _ ≤ _; exact Nat.le_of_eq rfl) (hb hby at_199) (fun _ _ => ⟨rfl, e38, (by decide : 1 + 1 ≤ _), (by decide : 4 + 3 ≤ _)⟩)
        dsimp only [Pt.U, Pt.locs, Pt.cells, Pt.slots] at X40 l40 y40 z40 st40 hQ40
        subst l40 y40 z40
        obtain ⟨rfl, N40q, K40, o40_0, o40_1, o40_2⟩ := hQ40
        have f41_0 := Nat.le_trans f39_0 K40.1
        have f41_1 := A38.keep K40
        have N40 := Fr.app N0 N40q
        refine Wp.back (U' := (T40.setTop (mkF m 202 #[.val (.int p0), .val (.int p1), .val (.long q2), .second, .val (.int (3 : Int32)), .val (.long mm), .second, .val (.long ((144115188075855872 : Int64) / mm)), .second, .val (.long ((mm * mm) * mm)), .second, .unset, .unset, .unset, .unset, .unset, .unset, .unset, .unset, .unset, .unset, .unset, .unset, .unset] [(.ref b38)]))) (fun t k => st40.trans k) ?_
        refine Wp.back (U' := (T40.setTop (mkF m 204 #[.val (.int p0), .val (.int p1), .val (.long q2), .second, .val (.int (3 : Int32)), .val (.long mm), .second, .val (.long ((144115188075855872 : Int64) / mm)), .second, .val (.long ((mm * mm) * mm)), .second, .val (.ref b38), .unset, .unset, .unset, .unset, .unset, .unset, .unset, .unset, .unset, .unset, .unset, .unset] []))) (fun t k => XS.astore X40.here hx rfl (hb hby at_202) rfl rfl (l' := #[.val (.int p0), .val (.int p1), .val (.long q2), .second, .val (.int (3 : Int32)), .val (.long mm), .second, .val (.long ((144115188075855872 : Int64) / mm)), .second, .val (.long ((mm * mm) * mm)), .second, .val (.ref b38), .unset, .unset, .unset, .unset, .unset, .unset, .unset, .unset, .unset, .unset, .unset, .unset]) rfl k) ?_
        have hB := own_bb3 hm c101_36 c120_37
        generalize ((64 : Int32) - (f_lnz (((((1 : Int64) * ((mm).toInt32).toInt64) * ((mm).toInt32).toInt64) * ((mm).toInt32).toInt64) - (1 : Int64)))) = bb at hB o40_2 ⊢
        refine Wp.back (U' := (T40.setTop (mkF m 213 #[.val (.int p0), .val (.int p1), .val (.long q2), .second, .val (.int (3 : Int32)), .val (.long mm), .second, .val (.long ((144115188075855872 : Int64) / mm)), .second, .val (.long ((mm * mm) * mm)), .second, .val (.ref b38), .unset, .unset, .unset, .unset, .unset, .unset, .unset, .unset, .unset, .unset, .unset, .unset] [(.long (24 : Int64)), (.ref b38)]))) (fun t k => XS.aload X40.here hx rfl (hb hby at_204) rfl rfl (Jvm.Stand.ldc2J X40 hx hown (mvT hZ (hw _ (List.mem_of_getElem? (i := 30) rfl))) rfl (hb hby at_206) (XS.iload X40.here hx rfl (hb hby at_209) rfl (XS.i2l X40.here hx rfl (hb hby at_211) rfl (XS.lmul X40.here hx rfl (hb hby at_212) rfl k))))) ?_
        obtain ⟨cq42, kq42, q42a, q42b, q42c⟩ := isOf hZ rfl o40_0
        obtain ⟨_, _, ⟨T42, L42, k42, n42⟩, -, X42, ⟨Lc42, hQ42, l42, y42, z42⟩, st42⟩ := X40.virtualBack hx (y := (⟨"com/example/known_leaks/knownleaks/CellPacking", "bytes", "(J)J"⟩ : MethodName)) (z := (⟨"com/example/known_leaks/knownleaks/CellPacking", "bytes", "(J)J"⟩ : MethodName)) hown (mvT hZ (hw _ (List.mem_of_getElem? (i := 31) rfl))) (mvT hZ (hw _ (List.mem_of_getElem? (i := 32) rfl))) (notFace_of_selects (args := #[]) (mvT hZ (hw _ (List.mem_of_getElem? (i := 34) rfl)))) (mvT hZ (hw _ (List.mem_of_getElem? (i := 34) rfl))) (mvT hZ (hw _ (List.mem_of_getElem? (i := 33) rfl))) (by decide) (backOf (W := 0) (rm_be3 l Z a0 hw [] b38 bb T40.heap n0 f41_0 o40_1 o40_2) hZ (hw _ (List.mem_of_getElem? (i := 35) rfl)) (hw _ (List.mem_of_getElem? (i := 4) rfl)) (by decide) (by decide)) q42a q42c (g := (mkF m 213 #[.val (.int p0), .val (.int p1), .val (.long q2), .second, .val (.int (3 : Int32)), .val (.long mm), .second, .val (.long ((144115188075855872 : Int64) / mm)), .second, .val (.long ((mm * mm) * mm)), .second, .val (.ref b38), .unset, .unset, .unset, .unset, .unset, .unset, .unset, .unset, .unset, .unset, .unset, .unset] [(.long (24 : Int64)), (.ref b38)])) rfl (by rw [hml]; rfl) (Steps.refl _) (argsL := [(.long (24 : Int64))]) (rest := []) (lenOf pd0_1 rfl) rfl (by show 2 * 0 + _ ≤ _; exact Nat.le_of_eq rfl) (hb hby at_213) (fun _ _ => ⟨rfl, rfl, (by decide : 2 + 0 ≤ _), (by decide : 7 + 0 ≤ _)⟩)
        dsimp only [Pt.U, Pt.locs, Pt.cells, Pt.slots] at X42 l42 y42 z42 st42 hQ42
        subst l42 y42 z42
        obtain ⟨rfl, N42q, K42⟩ := hQ42
        have f43_0 := Nat.le_trans f41_0 K42.1
        have f43_1 := o40_0.keep K42
        have f43_2 := o40_1.keep K42 nin0
        have f43_3 := o40_2.keep K42 nin0
        have N42 := Fr.app N40 N42q
        refine Wp.back (U' := (T42.setTop (mkF m 216 #[.val (.int p0), .val (.int p1), .val (.long q2), .second, .val (.int (3 : Int32)), .val (.long mm), .second, .val (.long ((144115188075855872 : Int64) / mm)), .second, .val (.long ((mm * mm) * mm)), .second, .val (.ref b38), .unset, .unset, .unset, .unset, .unset, .unset, .unset, .unset, .unset, .unset, .unset, .unset] [(.long ((((8 : Int64) * (bb).toInt64) + (7 : Int64)) / (8 : Int64)))]))) (fun t k => st42.trans k) ?_
        refine Wp.back (U' := (T42.setTop (mkF m 218 #[.val (.int p0), .val (.int p1), .val (.long q2), .second, .val (.int (3 : Int32)), .val (.long mm), .second, .val (.long ((144115188075855872 : Int64) / mm)), .second, .val (.long ((mm * mm) * mm)), .second, .val (.ref b38), .val (.long ((((8 : Int64) * (bb).toInt64) + (7 : Int64)) / (8 : Int64))), .second, .unset, .unset, .unset, .unset, .unset, .unset, .unset, .unset, .unset, .unset] []))) (fun t k => XS.lstore X42.here hx rfl (hb hby at_216) rfl (l' := #[.val (.int p0), .val (.int p1), .val (.long q2), .second, .val (.int (3 : Int32)), .val (.long mm), .second, .val (.long ((144115188075855872 : Int64) / mm)), .second, .val (.long ((mm * mm) * mm)), .second, .val (.ref b38), .val (.long ((((8 : Int64) * (bb).toInt64) + (7 : Int64)) / (8 : Int64))), .second, .unset, .unset, .unset, .unset, .unset, .unset, .unset, .unset, .unset, .unset]) rfl k) ?_
        rw [show ((((8 : Int64) * (bb).toInt64) + (7 : Int64)) / (8 : Int64)) = (bb).toInt64 from own_b8 hB.1]
        refine Wp.back (U' := (T42.setTop (mkF m 242 #[.val (.int p0), .val (.int p1), .val (.long q2), .second, .val (.int (3 : Int32)), .val (.long mm), .second, .val (.long ((144115188075855872 : Int64) / mm)), .second, .val (.long ((mm * mm) * mm)), .second, .val (.ref b38), .val (.long (bb).toInt64), .second, .val (.long (((mm * mm) * mm) - (1 : Int64))), .second, .unset, .unset, .unset, .unset, .unset, .unset, .unset, .unset] []))) (fun t k => XS.lload X42.here hx rfl (hb hby at_218) rfl (XT.lconstV X42.here hx rfl (1 : Int64) (hb hby at_220) (by decide) (XS.lcmp X42.here hx rfl (hb hby at_221) rfl (XS.ifNo X42.here hx rfl (hb hby at_222) rfl ((if0 _ _).trans (flt (fun q => (own_l1 hB.1) ((lw_lt (bb).toInt64 (1 : Int64)).mp q))).1) (XS.lload X42.here hx rfl (hb hby at_225) rfl (Jvm.Stand.ldc2J X42 hx hown (mvT hZ (hw _ (List.mem_of_getElem? (i := 38) rfl))) rfl (hb hby at_227) (XS.lcmp X42.here hx rfl (hb hby at_230) rfl (XS.ifYes X42.here hx rfl (pc0 := 231) (pc' := 236) rfl (hb hby at_231) rfl ((if0 _ _).trans (flt (fun q => (own_l2 hB.1) ((lw_gt (bb).toInt64 (57 : Int64)).mp q))).2.2.2) (by decide) (by decide) (XS.lload X42.here hx rfl (hb hby at_236) rfl (XT.lconstV X42.here hx rfl (1 : Int64) (hb hby at_238) (by decide) (XS.lsub X42.here hx rfl (hb hby at_239) rfl (XS.lstore X42.here hx rfl (hb hby at_240) rfl (l' := #[.val (.int p0), .val (.int p1), .val (.long q2), .second, .val (.int (3 : Int32)), .val (.long mm), .second, .val (.long ((144115188075855872 : Int64) / mm)), .second, .val (.long ((mm * mm) * mm)), .second, .val (.ref b38), .val (.long (bb).toInt64), .second, .val (.long (((mm * mm) * mm) - (1 : Int64))), .second, .unset, .unset, .unset, .unset, .unset, .unset, .unset, .unset]) rfl k)))))))))))) ?_
        refine Wp.back (U' := (T42.setTop (mkF m 260 #[.val (.int p0), .val (.int p1), .val (.long q2), .second, .val (.int (3 : Int32)), .val (.long mm), .second, .val (.long ((144115188075855872 : Int64) / mm)), .second, .val (.long ((mm * mm) * mm)), .second, .val (.ref b38), .val (.long (bb).toInt64), .second, .val (.long (((mm * mm) * mm) - (1 : Int64))), .second, .unset, .unset, .unset, .unset, .unset, .unset, .unset, .unset] [(.long ((bb).toInt64 - (1 : Int64))), (.long (1 : Int64)), (.long (((mm * mm) * mm) - (1 : Int64)))]))) (fun t k => XS.lload X42.here hx rfl (hb hby at_242) rfl (XT.lconstV X42.here hx rfl (1 : Int64) (hb hby at_244) (by decide) (XS.lload X42.here hx rfl (hb hby at_245) rfl (XS.l2i X42.here hx rfl (hb hby at_247) rfl (XS.lshl X42.here hx rfl (hb hby at_248) rfl (XS.lcmp X42.here hx rfl (hb hby at_249) rfl (XS.ifNo X42.here hx rfl (hb hby at_250) rfl ((if0 _ _).trans (tlt ((lw_lt (((mm * mm) * mm) - (1 : Int64)) ((1 : Int64) <<< (((bb).toInt64).toInt32 &&& 0x3f).toInt64)).mpr (own_t1 hB))).2.1) (XS.lload X42.here hx rfl (hb hby at_253) rfl (XT.lconstV X42.here hx rfl (1 : Int64) (hb hby at_255) (by decide) (XS.lload X42.here hx rfl (hb hby at_256) rfl (XT.lconstV X42.here hx rfl (1 : Int64) (hb hby at_258) (by decide) (XS.lsub X42.here hx rfl (hb hby at_259) rfl k)))))))))))) ?_
        refine Wp.back (U' := (T42.setTop (mkF m 275 #[.val (.int p0), .val (.int p1), .val (.long q2), .second, .val (.int (3 : Int32)), .val (.long mm), .second, .val (.long ((144115188075855872 : Int64) / mm)), .second, .val (.long ((mm * mm) * mm)), .second, .val (.ref b38), .val (.long (bb).toInt64), .second, .val (.long (((mm * mm) * mm) - (1 : Int64))), .second, .val (.long (q2 &&& (72057594037927935 : Int64))), .second, .unset, .unset, .unset, .unset, .unset, .unset] []))) (fun t k => XS.l2i X42.here hx rfl (hb hby at_260) rfl (XS.lshl X42.here hx rfl (hb hby at_261) rfl (XS.lcmp X42.here hx rfl (hb hby at_262) rfl (XS.ifYes X42.here hx rfl (pc0 := 263) (pc' := 268) rfl (hb hby at_263) rfl ((if0 _ _).trans (flt (fun q => (own_t2 hB) ((lw_lt (((mm * mm) * mm) - (1 : Int64)) ((1 : Int64) <<< ((((bb).toInt64 - (1 : Int64))).toInt32 &&& 0x3f).toInt64)).mp q))).2.1) (by decide) (by decide) (XS.lloadN X42.here hx rfl (hb hby at_268) rfl (Jvm.Stand.ldc2J X42 hx hown (mvT hZ (hw _ (List.mem_of_getElem? (i := 39) rfl))) rfl (hb hby at_269) (XS.land X42.here hx rfl (hb hby at_272) rfl (XS.lstore X42.here hx rfl (hb hby at_273) rfl (l' := #[.val (.int p0), .val (.int p1), .val (.long q2), .second, .val (.int (3 : Int32)), .val (.long mm), .second, .val (.long ((144115188075855872 : Int64) / mm)), .second, .val (.long ((mm * mm) * mm)), .second, .val (.ref b38), .val (.long (bb).toInt64), .second, .val (.long (((mm * mm) * mm) - (1 : Int64))), .second, .val (.long (q2 &&& (72057594037927935 : Int64))), .second, .unset, .unset, .unset, .unset, .unset, .unset]) rfl k)))))))) ?_
        have hc := own_cl q2
        generalize (q2 &&& (72057594037927935 : Int64)) = cc at hc ⊢
        refine Wp.back (U' := (T42.setTop (mkF m 289 #[.val (.int p0), .val (.int p1), .val (.long q2), .second, .val (.int (3 : Int32)), .val (.long mm), .second, .val (.long ((144115188075855872 : Int64) / mm)), .second, .val (.long ((mm * mm) * mm)), .second, .val (.ref b38), .val (.long (bb).toInt64), .second, .val (.long (((mm * mm) * mm) - (1 : Int64))), .second, .val (.long cc), .second, .unset, .unset, .unset, .unset, .unset, .unset] [(.int (lcmpW (cc - (cc / (3 : Int64)) * (3 : Int64)) (0 : Int64))), (.long (cc / (3 : Int64)))]))) (fun t k => XS.lload X42.here hx rfl (hb hby at_275) rfl (XS.iload X42.here hx rfl (hb hby at_277) rfl (XS.i2l X42.here hx rfl (hb hby at_279) rfl (XS.ldiv X42.here hx rfl (hb hby at_280) rfl (by decide) (XS.lload X42.here hx rfl (hb hby at_281) rfl (XS.iload X42.here hx rfl (hb hby at_283) rfl (XS.i2l X42.here hx rfl (hb hby at_285) rfl (XS.lrem X42.here hx rfl (hb hby at_286) rfl (by decide) (XT.lconstV X42.here hx rfl (0 : Int64) (hb hby at_287) (by decide) (XS.lcmp X42.here hx rfl (hb hby at_288) rfl k)))))))))) ?_
        by_cases c289_44 : (cc - (cc / (3 : Int64)) * (3 : Int64)) = (0 : Int64)
        · refine Wp.back (U' := (T42.setTop (mkF m 314 #[.val (.int p0), .val (.int p1), .val (.long q2), .second, .val (.int (3 : Int32)), .val (.long mm), .second, .val (.long ((144115188075855872 : Int64) / mm)), .second, .val (.long ((mm * mm) * mm)), .second, .val (.ref b38), .val (.long (bb).toInt64), .second, .val (.long (((mm * mm) * mm) - (1 : Int64))), .second, .val (.long cc), .second, .val (.long ((cc / (3 : Int64)) + (0 : Int64))), .second, .val (.long (((cc / (3 : Int64)) + (0 : Int64)) * (bb).toInt64)), .second, .unset, .unset] [(.long ((((cc / (3 : Int64)) + (0 : Int64)) * (bb).toInt64) / (8 : Int64)))]))) (fun t k => XS.ifYes X42.here hx rfl (pc0 := 289) (pc' := 296) rfl (hb hby at_289) rfl ((if0 _ _).trans (teq ((lw_eq (cc - (cc / (3 : Int64)) * (3 : Int64)) (0 : Int64)).mpr c289_44)).1) (by decide) (by decide) (XT.iconstV X42.here hx rfl (0 : Int32) (hb hby at_296) (by decide) (XS.i2l X42.here hx rfl (hb hby at_297) rfl (XS.ladd X42.here hx rfl (hb hby at_298) rfl (XS.lstore X42.here hx rfl (hb hby at_299) rfl (l' := #[.val (.int p0), .val (.int p1), .val (.long q2), .second, .val (.int (3 : Int32)), .val (.long mm), .second, .val (.long ((144115188075855872 : Int64) / mm)), .second, .val (.long ((mm * mm) * mm)), .second, .val (.ref b38), .val (.long (bb).toInt64), .second, .val (.long (((mm * mm) * mm) - (1 : Int64))), .second, .val (.long cc), .second, .val (.long ((cc / (3 : Int64)) + (0 : Int64))), .second, .unset, .unset, .unset, .unset]) rfl (XS.lload X42.here hx rfl (hb hby at_301) rfl (XS.lload X42.here hx rfl (hb hby at_303) rfl (XS.lmul X42.here hx rfl (hb hby at_305) rfl (XS.lstore X42.here hx rfl (hb hby at_306) rfl (l' := #[.val (.int p0), .val (.int p1), .val (.long q2), .second, .val (.int (3 : Int32)), .val (.long mm), .second, .val (.long ((144115188075855872 : Int64) / mm)), .second, .val (.long ((mm * mm) * mm)), .second, .val (.ref b38), .val (.long (bb).toInt64), .second, .val (.long (((mm * mm) * mm) - (1 : Int64))), .second, .val (.long cc), .second, .val (.long ((cc / (3 : Int64)) + (0 : Int64))), .second, .val (.long (((cc / (3 : Int64)) + (0 : Int64)) * (bb).toInt64)), .second, .unset, .unset]) rfl (XS.lload X42.here hx rfl (hb hby at_308) rfl (Jvm.Stand.ldc2J X42 hx hown (mvT hZ (hw _ (List.mem_of_getElem? (i := 30) rfl))) rfl (hb hby at_310) (XS.ldiv X42.here hx rfl (hb hby at_313) rfl (by decide) k)))))))))))) ?_
          refine Wp.back (U' := (T42.setTop (mkF m 322 #[.val (.int p0), .val (.int p1), .val (.long q2), .second, .val (.int (3 : Int32)), .val (.long mm), .second, .val (.long ((144115188075855872 : Int64) / mm)), .second, .val (.long ((mm * mm) * mm)), .second, .val (.ref b38), .val (.long (bb).toInt64), .second, .val (.long (((mm * mm) * mm) - (1 : Int64))), .second, .val (.long cc), .second, .val (.long ((cc / (3 : Int64)) + (0 : Int64))), .second, .val (.long (((cc / (3 : Int64)) + (0 : Int64)) * (bb).toInt64)), .second, .unset, .unset] [(.int (lcmpW ((((cc / (3 : Int64)) + (0 : Int64)) * (bb).toInt64) - ((((cc / (3 : Int64)) + (0 : Int64)) * (bb).toInt64) / (8 : Int64)) * (8 : Int64)) (0 : Int64))), (.long ((((cc / (3 : Int64)) + (0 : Int64)) * (bb).toInt64) / (8 : Int64)))]))) (fun t k => XS.lload X42.here hx rfl (hb hby at_314) rfl (Jvm.Stand.ldc2J X42 hx hown (mvT hZ (hw _ (List.mem_of_getElem? (i := 30) rfl))) rfl (hb hby at_316) (XS.lrem X42.here hx rfl (hb hby at_319) rfl (by decide) (XT.lconstV X42.here hx rfl (0 : Int64) (hb hby at_320) (by decide) (XS.lcmp X42.here hx rfl (hb hby at_321) rfl k))))) ?_
          by_cases c322_45 : ((((cc / (3 : Int64)) + (0 : Int64)) * (bb).toInt64) - ((((cc / (3 : Int64)) + (0 : Int64)) * (bb).toInt64) / (8 : Int64)) * (8 : Int64)) = (0 : Int64)
          · refine Wp.back (U' := (T42.setTop (mkF m 338 #[.val (.int p0), .val (.int p1), .val (.long q2), .second, .val (.int (3 : Int32)), .val (.long mm), .second, .val (.long ((144115188075855872 : Int64) / mm)), .second, .val (.long ((mm * mm) * mm)), .second, .val (.ref b38), .val (.long (bb).toInt64), .second, .val (.long (((mm * mm) * mm) - (1 : Int64))), .second, .val (.long cc), .second, .val (.long ((cc / (3 : Int64)) + (0 : Int64))), .second, .val (.long (((cc / (3 : Int64)) + (0 : Int64)) * (bb).toInt64)), .second, .val (.long (((((cc / (3 : Int64)) + (0 : Int64)) * (bb).toInt64) / (8 : Int64)) + (0 : Int64))), .second] [(.long cc), (.ref b38)]))) (fun t k => XS.ifYes X42.here hx rfl (pc0 := 322) (pc' := 329) rfl (hb hby at_322) rfl ((if0 _ _).trans (teq ((lw_eq ((((cc / (3 : Int64)) + (0 : Int64)) * (bb).toInt64) - ((((cc / (3 : Int64)) + (0 : Int64)) * (bb).toInt64) / (8 : Int64)) * (8 : Int64)) (0 : Int64)).mpr c322_45)).1) (by decide) (by decide) (XT.iconstV X42.here hx rfl (0 : Int32) (hb hby at_329) (by decide) (XS.i2l X42.here hx rfl (hb hby at_330) rfl (XS.ladd X42.here hx rfl (hb hby at_331) rfl (XS.lstore X42.here hx rfl (hb hby at_332) rfl (l' := #[.val (.int p0), .val (.int p1), .val (.long q2), .second, .val (.int (3 : Int32)), .val (.long mm), .second, .val (.long ((144115188075855872 : Int64) / mm)), .second, .val (.long ((mm * mm) * mm)), .second, .val (.ref b38), .val (.long (bb).toInt64), .second, .val (.long (((mm * mm) * mm) - (1 : Int64))), .second, .val (.long cc), .second, .val (.long ((cc / (3 : Int64)) + (0 : Int64))), .second, .val (.long (((cc / (3 : Int64)) + (0 : Int64)) * (bb).toInt64)), .second, .val (.long (((((cc / (3 : Int64)) + (0 : Int64)) * (bb).toInt64) / (8 : Int64)) + (0 : Int64))), .second]) rfl (XS.aload X42.here hx rfl (hb hby at_334) rfl rfl (XS.lload X42.here hx rfl (hb hby at_336) rfl k))))))) ?_
            obtain ⟨cq46, kq46, q46a, q46b, q46c⟩ := isOf hZ rfl f43_1
            obtain ⟨_, _, ⟨T46, L46, k46, n46⟩, -, X46, ⟨Lc46, hQ46, l46, y46, z46⟩, st46⟩ := X42.virtualBack hx (y := (⟨"com/example/known_leaks/knownleaks/CellPacking", "bytes", "(J)J"⟩ : MethodName)) (z := (⟨"com/example/known_leaks/knownleaks/CellPacking", "bytes", "(J)J"⟩ : MethodName)) hown (mvT hZ (hw _ (List.mem_of_getElem? (i := 31) rfl))) (mvT hZ (hw _ (List.mem_of_getElem? (i := 32) rfl))) (notFace_of_selects (args := #[]) (mvT hZ (hw _ (List.mem_of_getElem? (i := 34) rfl)))) (mvT hZ (hw _ (List.mem_of_getElem? (i := 34) rfl))) (mvT hZ (hw _ (List.mem_of_getElem? (i := 33) rfl))) (by decide) (backOf (W := 0) (rm_by3 l Z a0 hw [] b38 cc bb T42.heap n0 f43_0 f43_2 f43_3) hZ (hw _ (List.mem_of_getElem? (i := 35) rfl)) (hw _ (List.mem_of_getElem? (i := 4) rfl)) (by decide) (by decide)) q46a q46c (g := (mkF m 338 #[.val (.int p0), .val (.int p1), .val (.long q2), .second, .val (.int (3 : Int32)), .val (.long mm), .second, .val (.long ((144115188075855872 : Int64) / mm)), .second, .val (.long ((mm * mm) * mm)), .second, .val (.ref b38), .val (.long (bb).toInt64), .second, .val (.long (((mm * mm) * mm) - (1 : Int64))), .second, .val (.long cc), .second, .val (.long ((cc / (3 : Int64)) + (0 : Int64))), .second, .val (.long (((cc / (3 : Int64)) + (0 : Int64)) * (bb).toInt64)), .second, .val (.long (((((cc / (3 : Int64)) + (0 : Int64)) * (bb).toInt64) / (8 : Int64)) + (0 : Int64))), .second] [(.long cc), (.ref b38)])) rfl (by rw [hml]; rfl) (Steps.refl _) (argsL := [(.long cc)]) (rest := []) (lenOf pd0_1 rfl) rfl (by show 2 * 0 + _ ≤ _; exact Nat.le_of_eq rfl) (hb hby at_338) (fun _ _ => ⟨rfl, rfl, (by decide : 2 + 0 ≤ _), (by decide : 7 + 0 ≤ _)⟩)
            dsimp only [Pt.U, Pt.locs, Pt.cells, Pt.slots] at X46 l46 y46 z46 st46 hQ46
            subst l46 y46 z46
            obtain ⟨rfl, N46q, K46⟩ := hQ46
            have f47_0 := Nat.le_trans f43_0 K46.1
            have f47_1 := f43_1.keep K46
            have f47_2 := f43_2.keep K46 nin0
            have f47_3 := f43_3.keep K46 nin0
            have N46 := Fr.app N42 N46q
            refine Wp.back (U' := (T46.setTop (mkF m 341 #[.val (.int p0), .val (.int p1), .val (.long q2), .second, .val (.int (3 : Int32)), .val (.long mm), .second, .val (.long ((144115188075855872 : Int64) / mm)), .second, .val (.long ((mm * mm) * mm)), .second, .val (.ref b38), .val (.long (bb).toInt64), .second, .val (.long (((mm * mm) * mm) - (1 : Int64))), .second, .val (.long cc), .second, .val (.long ((cc / (3 : Int64)) + (0 : Int64))), .second, .val (.long (((cc / (3 : Int64)) + (0 : Int64)) * (bb).toInt64)), .second, .val (.long (((((cc / (3 : Int64)) + (0 : Int64)) * (bb).toInt64) / (8 : Int64)) + (0 : Int64))), .second] [(.long ((((((cc + (3 : Int64)) - (1 : Int64)) / (3 : Int64)) * (bb).toInt64) + (7 : Int64)) / (8 : Int64)))]))) (fun t k => st46.trans k) ?_
            refine Wp.back (U' := (T46.setTop (mkF m 352 #[.val (.int p0), .val (.int p1), .val (.long q2), .second, .val (.int (3 : Int32)), .val (.long mm), .second, .val (.long ((144115188075855872 : Int64) / mm)), .second, .val (.long ((mm * mm) * mm)), .second, .val (.ref b38), .val (.long (bb).toInt64), .second, .val (.long (((mm * mm) * mm) - (1 : Int64))), .second, .val (.long cc), .second, .val (.long ((cc / (3 : Int64)) + (0 : Int64))), .second, .val (.long (((cc / (3 : Int64)) + (0 : Int64)) * (bb).toInt64)), .second, .val (.long (((((cc / (3 : Int64)) + (0 : Int64)) * (bb).toInt64) / (8 : Int64)) + (0 : Int64))), .second] [(.int (1 : Int32))]))) (fun t k => XS.lload X46.here hx rfl (hb hby at_341) rfl (XS.lcmp X46.here hx rfl (hb hby at_343) rfl (XS.ifNo X46.here hx rfl (hb hby at_344) rfl ((if0 _ _).trans (teq ((lw_eq ((((((cc + (3 : Int64)) - (1 : Int64)) / (3 : Int64)) * (bb).toInt64) + (7 : Int64)) / (8 : Int64)) (((((cc / (3 : Int64)) + (0 : Int64)) * (bb).toInt64) / (8 : Int64)) + (0 : Int64))).mpr (own_f3_tt hB.1 hc c289_44 c322_45))).2) (XT.iconstV X46.here hx rfl (1 : Int32) (hb hby at_347) (by decide) (XS.goto X46.here hx rfl (pc0 := 348) (pc' := 352) rfl (hb hby at_348) (by decide) (by decide) k))))) ?_
            obtain ⟨fs, hr, hrun, hended, hW, hsame⟩ := X46.leave (v := (some (.int (1 : Int32)))) (fun h => by rw [hret] at h; cases h)
            refine Wp.done (retN X46 hx (t := .boolean) hret (by simp) (hb hby at_352) hr) hrun hended ⟨_, _, rfl, ?_, ⟨_, rfl⟩, hW, hsame.mono (by decide) (by decide)⟩
            show QL n0 _ T46.heap _
            exact ⟨rfl, N46⟩
          · refine Wp.back (U' := (T42.setTop (mkF m 338 #[.val (.int p0), .val (.int p1), .val (.long q2), .second, .val (.int (3 : Int32)), .val (.long mm), .second, .val (.long ((144115188075855872 : Int64) / mm)), .second, .val (.long ((mm * mm) * mm)), .second, .val (.ref b38), .val (.long (bb).toInt64), .second, .val (.long (((mm * mm) * mm) - (1 : Int64))), .second, .val (.long cc), .second, .val (.long ((cc / (3 : Int64)) + (0 : Int64))), .second, .val (.long (((cc / (3 : Int64)) + (0 : Int64)) * (bb).toInt64)), .second, .val (.long (((((cc / (3 : Int64)) + (0 : Int64)) * (bb).toInt64) / (8 : Int64)) + (1 : Int64))), .second] [(.long cc), (.ref b38)]))) (fun t k => XS.ifNo X42.here hx rfl (hb hby at_322) rfl ((if0 _ _).trans (feq (fun q => c322_45 ((lw_eq ((((cc / (3 : Int64)) + (0 : Int64)) * (bb).toInt64) - ((((cc / (3 : Int64)) + (0 : Int64)) * (bb).toInt64) / (8 : Int64)) * (8 : Int64)) (0 : Int64)).mp q))).1) (XT.iconstV X42.here hx rfl (1 : Int32) (hb hby at_325) (by decide) (XS.goto X42.here hx rfl (pc0 := 326) (pc' := 330) rfl (hb hby at_326) (by decide) (by decide) (XS.i2l X42.here hx rfl (hb hby at_330) rfl (XS.ladd X42.here hx rfl (hb hby at_331) rfl (XS.lstore X42.here hx rfl (hb hby at_332) rfl (l' := #[.val (.int p0), .val (.int p1), .val (.long q2), .second, .val (.int (3 : Int32)), .val (.long mm), .second, .val (.long ((144115188075855872 : Int64) / mm)), .second, .val (.long ((mm * mm) * mm)), .second, .val (.ref b38), .val (.long (bb).toInt64), .second, .val (.long (((mm * mm) * mm) - (1 : Int64))), .second, .val (.long cc), .second, .val (.long ((cc / (3 : Int64)) + (0 : Int64))), .second, .val (.long (((cc / (3 : Int64)) + (0 : Int64)) * (bb).toInt64)), .second, .val (.long (((((cc / (3 : Int64)) + (0 : Int64)) * (bb).toInt64) / (8 : Int64)) + (1 : Int64))), .second]) rfl (XS.aload X42.here hx rfl (hb hby at_334) rfl rfl (XS.lload X42.here hx rfl (hb hby at_336) rfl k)))))))) ?_
            obtain ⟨cq48, kq48, q48a, q48b, q48c⟩ := isOf hZ rfl f43_1
            obtain ⟨_, _, ⟨T48, L48, k48, n48⟩, -, X48, ⟨Lc48, hQ48, l48, y48, z48⟩, st48⟩ := X42.virtualBack hx (y := (⟨"com/example/known_leaks/knownleaks/CellPacking", "bytes", "(J)J"⟩ : MethodName)) (z := (⟨"com/example/known_leaks/knownleaks/CellPacking", "bytes", "(J)J"⟩ : MethodName)) hown (mvT hZ (hw _ (List.mem_of_getElem? (i := 31) rfl))) (mvT hZ (hw _ (List.mem_of_getElem? (i := 32) rfl))) (notFace_of_selects (args := #[]) (mvT hZ (hw _ (List.mem_of_getElem? (i := 34) rfl)))) (mvT hZ (hw _ (List.mem_of_getElem? (i := 34) rfl))) (mvT hZ (hw _ (List.mem_of_getElem? (i := 33) rfl))) (by decide) (backOf (W := 0) (rm_by3 l Z a0 hw [] b38 cc bb T42.heap n0 f43_0 f43_2 f43_3) hZ (hw _ (List.mem_of_getElem? (i := 35) rfl)) (hw _ (List.mem_of_getElem? (i := 4) rfl)) (by decide) (by decide)) q48a q48c (g := (mkF m 338 #[.val (.int p0), .val (.int p1), .val (.long q2), .second, .val (.int (3 : Int32)), .val (.long mm), .second, .val (.long ((144115188075855872 : Int64) / mm)), .second, .val (.long ((mm * mm) * mm)), .second, .val (.ref b38), .val (.long (bb).toInt64), .second, .val (.long (((mm * mm) * mm) - (1 : Int64))), .second, .val (.long cc), .second, .val (.long ((cc / (3 : Int64)) + (0 : Int64))), .second, .val (.long (((cc / (3 : Int64)) + (0 : Int64)) * (bb).toInt64)), .second, .val (.long (((((cc / (3 : Int64)) + (0 : Int64)) * (bb).toInt64) / (8 : Int64)) + (1 : Int64))), .second] [(.long cc), (.ref b38)])) rfl (by rw [hml]; rfl) (Steps.refl _) (argsL := [(.long cc)]) (rest := []) (lenOf pd0_1 rfl) rfl (by show 2 * 0 + _ ≤ _; exact Nat.le_of_eq rfl) (hb hby at_338) (fun _ _ => ⟨rfl, rfl, (by decide : 2 + 0 ≤ _), (by decide : 7 + 0 ≤ _)⟩)
            dsimp only [Pt.U, Pt.locs, Pt.cells, Pt.slots] at X48 l48 y48 z48 st48 hQ48
            subst l48 y48 z48
            obtain ⟨rfl, N48q, K48⟩ := hQ48
            have f49_0 := Nat.le_trans f43_0 K48.1
            have f49_1 := f43_1.keep K48
            have f49_2 := f43_2.keep K48 nin0
            have f49_3 := f43_3.keep K48 nin0
            have N48 := Fr.app N42 N48q
            refine Wp.back (U' := (T48.setTop (mkF m 341 #[.val (.int p0), .val (.int p1), .val (.long q2), .second, .val (.int (3 : Int32)), .val (.long mm), .second, .val (.long ((144115188075855872 : Int64) / mm)), .second, .val (.long ((mm * mm) * mm)), .second, .val (.ref b38), .val (.long (bb).toInt64), .second, .val (.long (((mm * mm) * mm) - (1 : Int64))), .second, .val (.long cc), .second, .val (.long ((cc / (3 : Int64)) + (0 : Int64))), .second, .val (.long (((cc / (3 : Int64)) + (0 : Int64)) * (bb).toInt64)), .second, .val (.long (((((cc / (3 : Int64)) + (0 : Int64)) * (bb).toInt64) / (8 : Int64)) + (1 : Int64))), .second] [(.long ((((((cc + (3 : Int64)) - (1 : Int64)) / (3 : Int64)) * (bb).toInt64) + (7 : Int64)) / (8 : Int64)))]))) (fun t k => st48.trans k) ?_
            refine Wp.back (U' := (T48.setTop (mkF m 352 #[.val (.int p0), .val (.int p1), .val (.long q2), .second, .val (.int (3 : Int32)), .val (.long mm), .second, .val (.long ((144115188075855872 : Int64) / mm)), .second, .val (.long ((mm * mm) * mm)), .second, .val (.ref b38), .val (.long (bb).toInt64), .second, .val (.long (((mm * mm) * mm) - (1 : Int64))), .second, .val (.long cc), .second, .val (.long ((cc / (3 : Int64)) + (0 : Int64))), .second, .val (.long (((cc / (3 : Int64)) + (0 : Int64)) * (bb).toInt64)), .second, .val (.long (((((cc / (3 : Int64)) + (0 : Int64)) * (bb).toInt64) / (8 : Int64)) + (1 : Int64))), .second] [(.int (1 : Int32))]))) (fun t k => XS.lload X48.here hx rfl (hb hby at_341) rfl (XS.lcmp X48.here hx rfl (hb hby at_343) rfl (XS.ifNo X48.here hx rfl (hb hby at_344) rfl ((if0 _ _).trans (teq ((lw_eq ((((((cc + (3 : Int64)) - (1 : Int64)) / (3 : Int64)) * (bb).toInt64) + (7 : Int64)) / (8 : Int64)) (((((cc / (3 : Int64)) + (0 : Int64)) * (bb).toInt64) / (8 : Int64)) + (1 : Int64))).mpr (own_f3_tf hB.1 hc c289_44 c322_45))).2) (XT.iconstV X48.here hx rfl (1 : Int32) (hb hby at_347) (by decide) (XS.goto X48.here hx rfl (pc0 := 348) (pc' := 352) rfl (hb hby at_348) (by decide) (by decide) k))))) ?_
            obtain ⟨fs, hr, hrun, hended, hW, hsame⟩ := X48.leave (v := (some (.int (1 : Int32)))) (fun h => by rw [hret] at h; cases h)
            refine Wp.done (retN X48 hx (t := .boolean) hret (by simp) (hb hby at_352) hr) hrun hended ⟨_, _, rfl, ?_, ⟨_, rfl⟩, hW, hsame.mono (by decide) (by decide)⟩
            show QL n0 _ T48.heap _
            exact ⟨rfl, N48⟩
        · refine Wp.back (U' := (T42.setTop (mkF m 313 #[.val (.int p0), .val (.int p1), .val (.long q2), .second, .val (.int (3 : Int32)), .val (.long mm), .second, .val (.long ((144115188075855872 : Int64) / mm)), .second, .val (.long ((mm * mm) * mm)), .second, .val (.ref b38), .val (.long (bb).toInt64), .second, .val (.long (((mm * mm) * mm) - (1 : Int64))), .second, .val (.long cc), .second, .val (.long ((cc / (3 : Int64)) + (1 : Int64))), .second, .val (.long (((cc / (3 : Int64)) + (1 : Int64)) * (bb).toInt64)), .second, .unset, .unset] [(.long (8 : Int64)), (.long (((cc / (3 : Int64)) + (1 : Int64)) * (bb).toInt64))]))) (fun t k => XS.ifNo X42.here hx rfl (hb hby at_289) rfl ((if0 _ _).trans (feq (fun q => c289_44 ((lw_eq (cc - (cc / (3 : Int64)) * (3 : Int64)) (0 : Int64)).mp q))).1) (XT.iconstV X42.here hx rfl (1 : Int32) (hb hby at_292) (by decide) (XS.goto X42.here hx rfl (pc0 := 293) (pc' := 297) rfl (hb hby at_293) (by decide) (by decide) (XS.i2l X42.here hx rfl (hb hby at_297) rfl (XS.ladd X42.here hx rfl (hb hby at_298) rfl (XS.lstore X42.here hx rfl (hb hby at_299) rfl (l' := #[.val (.int p0), .val (.int p1), .val (.long q2), .second, .val (.int (3 : Int32)), .val (.long mm), .second, .val (.long ((144115188075855872 : Int64) / mm)), .second, .val (.long ((mm * mm) * mm)), .second, .val (.ref b38), .val (.long (bb).toInt64), .second, .val (.long (((mm * mm) * mm) - (1 : Int64))), .second, .val (.long cc), .second, .val (.long ((cc / (3 : Int64)) + (1 : Int64))), .second, .unset, .unset, .unset, .unset]) rfl (XS.lload X42.here hx rfl (hb hby at_301) rfl (XS.lload X42.here hx rfl (hb hby at_303) rfl (XS.lmul X42.here hx rfl (hb hby at_305) rfl (XS.lstore X42.here hx rfl (hb hby at_306) rfl (l' := #[.val (.int p0), .val (.int p1), .val (.long q2), .second, .val (.int (3 : Int32)), .val (.long mm), .second, .val (.long ((144115188075855872 : Int64) / mm)), .second, .val (.long ((mm * mm) * mm)), .second, .val (.ref b38), .val (.long (bb).toInt64), .second, .val (.long (((mm * mm) * mm) - (1 : Int64))), .second, .val (.long cc), .second, .val (.long ((cc / (3 : Int64)) + (1 : Int64))), .second, .val (.long (((cc / (3 : Int64)) + (1 : Int64)) * (bb).toInt64)), .second, .unset, .unset]) rfl (XS.lload X42.here hx rfl (hb hby at_308) rfl (Jvm.Stand.ldc2J X42 hx hown (mvT hZ (hw _ (List.mem_of_getElem? (i := 30) rfl))) rfl (hb hby at_310) k)))))))))))) ?_
          refine Wp.back (U' := (T42.setTop (mkF m 322 #[.val (.int p0), .val (.int p1), .val (.long q2), .second, .val (.int (3 : Int32)), .val (.long mm), .second, .val (.long ((144115188075855872 : Int64) / mm)), .second, .val (.long ((mm * mm) * mm)), .second, .val (.ref b38), .val (.long (bb).toInt64), .second, .val (.long (((mm * mm) * mm) - (1 : Int64))), .second, .val (.long cc), .second, .val (.long ((cc / (3 : Int64)) + (1 : Int64))), .second, .val (.long (((cc / (3 : Int64)) + (1 : Int64)) * (bb).toInt64)), .second, .unset, .unset] [(.int (lcmpW ((((cc / (3 : Int64)) + (1 : Int64)) * (bb).toInt64) - ((((cc / (3 : Int64)) + (1 : Int64)) * (bb).toInt64) / (8 : Int64)) * (8 : Int64)) (0 : Int64))), (.long ((((cc / (3 : Int64)) + (1 : Int64)) * (bb).toInt64) / (8 : Int64)))]))) (fun t k => XS.ldiv X42.here hx rfl (hb hby at_313) rfl (by decide) (XS.lload X42.here hx rfl (hb hby at_314) rfl (Jvm.Stand.ldc2J X42 hx hown (mvT hZ (hw _ (List.mem_of_getElem? (i := 30) rfl))) rfl (hb hby at_316) (XS.lrem X42.here hx rfl (hb hby at_319) rfl (by decide) (XT.lconstV X42.here hx rfl (0 : Int64) (hb hby at_320) (by decide) (XS.lcmp X42.here hx rfl (hb hby at_321) rfl k)))))) ?_
          by_cases c322_50 : ((((cc / (3 : Int64)) + (1 : Int64)) * (bb).toInt64) - ((((cc / (3 : Int64)) + (1 : Int64)) * (bb).toInt64) / (8 : Int64)) * (8 : Int64)) = (0 : Int64)
          · refine Wp.back (U' := (T42.setTop (mkF m 338 #[.val (.int p0), .val (.int p1), .val (.long q2), .second, .val (.int (3 : Int32)), .val (.long mm), .second, .val (.long ((144115188075855872 : Int64) / mm)), .second, .val (.long ((mm * mm) * mm)), .second, .val (.ref b38), .val (.long (bb).toInt64), .second, .val (.long (((mm * mm) * mm) - (1 : Int64))), .second, .val (.long cc), .second, .val (.long ((cc / (3 : Int64)) + (1 : Int64))), .second, .val (.long (((cc / (3 : Int64)) + (1 : Int64)) * (bb).toInt64)), .second, .val (.long (((((cc / (3 : Int64)) + (1 : Int64)) * (bb).toInt64) / (8 : Int64)) + (0 : Int64))), .second] [(.long cc), (.ref b38)]))) (fun t k => XS.ifYes X42.here hx rfl (pc0 := 322) (pc' := 329) rfl (hb hby at_322) rfl ((if0 _ _).trans (teq ((lw_eq ((((cc / (3 : Int64)) + (1 : Int64)) * (bb).toInt64) - ((((cc / (3 : Int64)) + (1 : Int64)) * (bb).toInt64) / (8 : Int64)) * (8 : Int64)) (0 : Int64)).mpr c322_50)).1) (by decide) (by decide) (XT.iconstV X42.here hx rfl (0 : Int32) (hb hby at_329) (by decide) (XS.i2l X42.here hx rfl (hb hby at_330) rfl (XS.ladd X42.here hx rfl (hb hby at_331) rfl (XS.lstore X42.here hx rfl (hb hby at_332) rfl (l' := #[.val (.int p0), .val (.int p1), .val (.long q2), .second, .val (.int (3 : Int32)), .val (.long mm), .second, .val (.long ((144115188075855872 : Int64) / mm)), .second, .val (.long ((mm * mm) * mm)), .second, .val (.ref b38), .val (.long (bb).toInt64), .second, .val (.long (((mm * mm) * mm) - (1 : Int64))), .second, .val (.long cc), .second, .val (.long ((cc / (3 : Int64)) + (1 : Int64))), .second, .val (.long (((cc / (3 : Int64)) + (1 : Int64)) * (bb).toInt64)), .second, .val (.long (((((cc / (3 : Int64)) + (1 : Int64)) * (bb).toInt64) / (8 : Int64)) + (0 : Int64))), .second]) rfl (XS.aload X42.here hx rfl (hb hby at_334) rfl rfl (XS.lload X42.here hx rfl (hb hby at_336) rfl k))))))) ?_
            obtain ⟨cq51, kq51, q51a, q51b, q51c⟩ := isOf hZ rfl f43_1
            obtain ⟨_, _, ⟨T51, L51, k51, n51⟩, -, X51, ⟨Lc51, hQ51, l51, y51, z51⟩, st51⟩ := X42.virtualBack hx (y := (⟨"com/example/known_leaks/knownleaks/CellPacking", "bytes", "(J)J"⟩ : MethodName)) (z := (⟨"com/example/known_leaks/knownleaks/CellPacking", "bytes", "(J)J"⟩ : MethodName)) hown (mvT hZ (hw _ (List.mem_of_getElem? (i := 31) rfl))) (mvT hZ (hw _ (List.mem_of_getElem? (i := 32) rfl))) (notFace_of_selects (args := #[]) (mvT hZ (hw _ (List.mem_of_getElem? (i := 34) rfl)))) (mvT hZ (hw _ (List.mem_of_getElem? (i := 34) rfl))) (mvT hZ (hw _ (List.mem_of_getElem? (i := 33) rfl))) (by decide) (backOf (W := 0) (rm_by3 l Z a0 hw [] b38 cc bb T42.heap n0 f43_0 f43_2 f43_3) hZ (hw _ (List.mem_of_getElem? (i := 35) rfl)) (hw _ (List.mem_of_getElem? (i := 4) rfl)) (by decide) (by decide)) q51a q51c (g := (mkF m 338 #[.val (.int p0), .val (.int p1), .val (.long q2), .second, .val (.int (3 : Int32)), .val (.long mm), .second, .val (.long ((144115188075855872 : Int64) / mm)), .second, .val (.long ((mm * mm) * mm)), .second, .val (.ref b38), .val (.long (bb).toInt64), .second, .val (.long (((mm * mm) * mm) - (1 : Int64))), .second, .val (.long cc), .second, .val (.long ((cc / (3 : Int64)) + (1 : Int64))), .second, .val (.long (((cc / (3 : Int64)) + (1 : Int64)) * (bb).toInt64)), .second, .val (.long (((((cc / (3 : Int64)) + (1 : Int64)) * (bb).toInt64) / (8 : Int64)) + (0 : Int64))), .second] [(.long cc), (.ref b38)])) rfl (by rw [hml]; rfl) (Steps.refl _) (argsL := [(.long cc)]) (rest := []) (lenOf pd0_1 rfl) rfl (by show 2 * 0 + _ ≤ _; exact Nat.le_of_eq rfl) (hb hby at_338) (fun _ _ => ⟨rfl, rfl, (by decide : 2 + 0 ≤ _), (by decide : 7 + 0 ≤ _)⟩)
            dsimp only [Pt.U, Pt.locs, Pt.cells, Pt.slots] at X51 l51 y51 z51 st51 hQ51
            subst l51 y51 z51
            obtain ⟨rfl, N51q, K51⟩ := hQ51
            have f52_0 := Nat.le_trans f43_0 K51.1
            have f52_1 := f43_1.keep K51
            have f52_2 := f43_2.keep K51 nin0
            have f52_3 := f43_3.keep K51 nin0
            have N51 := Fr.app N42 N51q
            refine Wp.back (U' := (T51.setTop (mkF m 341 #[.val (.int p0), .val (.int p1), .val (.long q2), .second, .val (.int (3 : Int32)), .val (.long mm), .second, .val (.long ((144115188075855872 : Int64) / mm)), .second, .val (.long ((mm * mm) * mm)), .second, .val (.ref b38), .val (.long (bb).toInt64), .second, .val (.long (((mm * mm) * mm) - (1 : Int64))), .second, .val (.long cc), .second, .val (.long ((cc / (3 : Int64)) + (1 : Int64))), .second, .val (.long (((cc / (3 : Int64)) + (1 : Int64)) * (bb).toInt64)), .second, .val (.long (((((cc / (3 : Int64)) + (1 : Int64)) * (bb).toInt64) / (8 : Int64)) + (0 : Int64))), .second] [(.long ((((((cc + (3 : Int64)) - (1 : Int64)) / (3 : Int64)) * (bb).toInt64) + (7 : Int64)) / (8 : Int64)))]))) (fun t k => st51.trans k) ?_
            refine Wp.back (U' := (T51.setTop (mkF m 352 #[.val (.int p0), .val (.int p1), .val (.long q2), .second, .val (.int (3 : Int32)), .val (.long mm), .second, .val (.long ((144115188075855872 : Int64) / mm)), .second, .val (.long ((mm * mm) * mm)), .second, .val (.ref b38), .val (.long (bb).toInt64), .second, .val (.long (((mm * mm) * mm) - (1 : Int64))), .second, .val (.long cc), .second, .val (.long ((cc / (3 : Int64)) + (1 : Int64))), .second, .val (.long (((cc / (3 : Int64)) + (1 : Int64)) * (bb).toInt64)), .second, .val (.long (((((cc / (3 : Int64)) + (1 : Int64)) * (bb).toInt64) / (8 : Int64)) + (0 : Int64))), .second] [(.int (1 : Int32))]))) (fun t k => XS.lload X51.here hx rfl (hb hby at_341) rfl (XS.lcmp X51.here hx rfl (hb hby at_343) rfl (XS.ifNo X51.here hx rfl (hb hby at_344) rfl ((if0 _ _).trans (teq ((lw_eq ((((((cc + (3 : Int64)) - (1 : Int64)) / (3 : Int64)) * (bb).toInt64) + (7 : Int64)) / (8 : Int64)) (((((cc / (3 : Int64)) + (1 : Int64)) * (bb).toInt64) / (8 : Int64)) + (0 : Int64))).mpr (own_f3_ft hB.1 hc c289_44 c322_50))).2) (XT.iconstV X51.here hx rfl (1 : Int32) (hb hby at_347) (by decide) (XS.goto X51.here hx rfl (pc0 := 348) (pc' := 352) rfl (hb hby at_348) (by decide) (by decide) k))))) ?_
            obtain ⟨fs, hr, hrun, hended, hW, hsame⟩ := X51.leave (v := (some (.int (1 : Int32)))) (fun h => by rw [hret] at h; cases h)
            refine Wp.done (retN X51 hx (t := .boolean) hret (by simp) (hb hby at_352) hr) hrun hended ⟨_, _, rfl, ?_, ⟨_, rfl⟩, hW, hsame.mono (by decide) (by decide)⟩
            show QL n0 _ T51.heap _
            exact ⟨rfl, N51⟩
          · refine Wp.back (U' := (T42.setTop (mkF m 338 #[.val (.int p0), .val (.int p1), .val (.long q2), .second, .val (.int (3 : Int32)), .val (.long mm), .second, .val (.long ((144115188075855872 : Int64) / mm)), .second, .val (.long ((mm * mm) * mm)), .second, .val (.ref b38), .val (.long (bb).toInt64), .second, .val (.long (((mm * mm) * mm) - (1 : Int64))), .second, .val (.long cc), .second, .val (.long ((cc / (3 : Int64)) + (1 : Int64))), .second, .val (.long (((cc / (3 : Int64)) + (1 : Int64)) * (bb).toInt64)), .second, .val (.long (((((cc / (3 : Int64)) + (1 : Int64)) * (bb).toInt64) / (8 : Int64)) + (1 : Int64))), .second] [(.long cc), (.ref b38)]))) (fun t k => XS.ifNo X42.here hx rfl (hb hby at_322) rfl ((if0 _ _).trans (feq (fun q => c322_50 ((lw_eq ((((cc / (3 : Int64)) + (1 : Int64)) * (bb).toInt64) - ((((cc / (3 : Int64)) + (1 : Int64)) * (bb).toInt64) / (8 : Int64)) * (8 : Int64)) (0 : Int64)).mp q))).1) (XT.iconstV X42.here hx rfl (1 : Int32) (hb hby at_325) (by decide) (XS.goto X42.here hx rfl (pc0 := 326) (pc' := 330) rfl (hb hby at_326) (by decide) (by decide) (XS.i2l X42.here hx rfl (hb hby at_330) rfl (XS.ladd X42.here hx rfl (hb hby at_331) rfl (XS.lstore X42.here hx rfl (hb hby at_332) rfl (l' := #[.val (.int p0), .val (.int p1), .val (.long q2), .second, .val (.int (3 : Int32)), .val (.long mm), .second, .val (.long ((144115188075855872 : Int64) / mm)), .second, .val (.long ((mm * mm) * mm)), .second, .val (.ref b38), .val (.long (bb).toInt64), .second, .val (.long (((mm * mm) * mm) - (1 : Int64))), .second, .val (.long cc), .second, .val (.long ((cc / (3 : Int64)) + (1 : Int64))), .second, .val (.long (((cc / (3 : Int64)) + (1 : Int64)) * (bb).toInt64)), .second, .val (.long (((((cc / (3 : Int64)) + (1 : Int64)) * (bb).toInt64) / (8 : Int64)) + (1 : Int64))), .second]) rfl (XS.aload X42.here hx rfl (hb hby at_334) rfl rfl (XS.lload X42.here hx rfl (hb hby at_336) rfl k)))))))) ?_
            obtain ⟨cq53, kq53, q53a, q53b, q53c⟩ := isOf hZ rfl f43_1
            obtain ⟨_, _, ⟨T53, L53, k53, n53⟩, -, X53, ⟨Lc53, hQ53, l53, y53, z53⟩, st53⟩ := X42.virtualBack hx (y := (⟨"com/example/known_leaks/knownleaks/CellPacking", "bytes", "(J)J"⟩ : MethodName)) (z := (⟨"com/example/known_leaks/knownleaks/CellPacking", "bytes", "(J)J"⟩ : MethodName)) hown (mvT hZ (hw _ (List.mem_of_getElem? (i := 31) rfl))) (mvT hZ (hw _ (List.mem_of_getElem? (i := 32) rfl))) (notFace_of_selects (args := #[]) (mvT hZ (hw _ (List.mem_of_getElem? (i := 34) rfl)))) (mvT hZ (hw _ (List.mem_of_getElem? (i := 34) rfl))) (mvT hZ (hw _ (List.mem_of_getElem? (i := 33) rfl))) (by decide) (backOf (W := 0) (rm_by3 l Z a0 hw [] b38 cc bb T42.heap n0 f43_0 f43_2 f43_3) hZ (hw _ (List.mem_of_getElem? (i := 35) rfl)) (hw _ (List.mem_of_getElem? (i := 4) rfl)) (by decide) (by decide)) q53a q53c (g := (mkF m 338 #[.val (.int p0), .val (.int p1), .val (.long q2), .second, .val (.int (3 : Int32)), .val (.long mm), .second, .val (.long ((144115188075855872 : Int64) / mm)), .second, .val (.long ((mm * mm) * mm)), .second, .val (.ref b38), .val (.long (bb).toInt64), .second, .val (.long (((mm * mm) * mm) - (1 : Int64))), .second, .val (.long cc), .second, .val (.long ((cc / (3 : Int64)) + (1 : Int64))), .second, .val (.long (((cc / (3 : Int64)) + (1 : Int64)) * (bb).toInt64)), .second, .val (.long (((((cc / (3 : Int64)) + (1 : Int64)) * (bb).toInt64) / (8 : Int64)) + (1 : Int64))), .second] [(.long cc), (.ref b38)])) rfl (by rw [hml]; rfl) (Steps.refl _) (argsL := [(.long cc)]) (rest := []) (lenOf pd0_1 rfl) rfl (by show 2 * 0 + _ ≤ _; exact Nat.le_of_eq rfl) (hb hby at_338) (fun _ _ => ⟨rfl, rfl, (by decide : 2 + 0 ≤ _), (by decide : 7 + 0 ≤ _)⟩)
            dsimp only [Pt.U, Pt.locs, Pt.cells, Pt.slots] at X53 l53 y53 z53 st53 hQ53
            subst l53 y53 z53
            obtain ⟨rfl, N53q, K53⟩ := hQ53
            have f54_0 := Nat.le_trans f43_0 K53.1
            have f54_1 := f43_1.keep K53
            have f54_2 := f43_2.keep K53 nin0
            have f54_3 := f43_3.keep K53 nin0
            have N53 := Fr.app N42 N53q
            refine Wp.back (U' := (T53.setTop (mkF m 341 #[.val (.int p0), .val (.int p1), .val (.long q2), .second, .val (.int (3 : Int32)), .val (.long mm), .second, .val (.long ((144115188075855872 : Int64) / mm)), .second, .val (.long ((mm * mm) * mm)), .second, .val (.ref b38), .val (.long (bb).toInt64), .second, .val (.long (((mm * mm) * mm) - (1 : Int64))), .second, .val (.long cc), .second, .val (.long ((cc / (3 : Int64)) + (1 : Int64))), .second, .val (.long (((cc / (3 : Int64)) + (1 : Int64)) * (bb).toInt64)), .second, .val (.long (((((cc / (3 : Int64)) + (1 : Int64)) * (bb).toInt64) / (8 : Int64)) + (1 : Int64))), .second] [(.long ((((((cc + (3 : Int64)) - (1 : Int64)) / (3 : Int64)) * (bb).toInt64) + (7 : Int64)) / (8 : Int64)))]))) (fun t k => st53.trans k) ?_
            refine Wp.back (U' := (T53.setTop (mkF m 352 #[.val (.int p0), .val (.int p1), .val (.long q2), .second, .val (.int (3 : Int32)), .val (.long mm), .second, .val (.long ((144115188075855872 : Int64) / mm)), .second, .val (.long ((mm * mm) * mm)), .second, .val (.ref b38), .val (.long (bb).toInt64), .second, .val (.long (((mm * mm) * mm) - (1 : Int64))), .second, .val (.long cc), .second, .val (.long ((cc / (3 : Int64)) + (1 : Int64))), .second, .val (.long (((cc / (3 : Int64)) + (1 : Int64)) * (bb).toInt64)), .second, .val (.long (((((cc / (3 : Int64)) + (1 : Int64)) * (bb).toInt64) / (8 : Int64)) + (1 : Int64))), .second] [(.int (1 : Int32))]))) (fun t k => XS.lload X53.here hx rfl (hb hby at_341) rfl (XS.lcmp X53.here hx rfl (hb hby at_343) rfl (XS.ifNo X53.here hx rfl (hb hby at_344) rfl ((if0 _ _).trans (teq ((lw_eq ((((((cc + (3 : Int64)) - (1 : Int64)) / (3 : Int64)) * (bb).toInt64) + (7 : Int64)) / (8 : Int64)) (((((cc / (3 : Int64)) + (1 : Int64)) * (bb).toInt64) / (8 : Int64)) + (1 : Int64))).mpr (own_f3_ff hB.1 hc c289_44 c322_50))).2) (XT.iconstV X53.here hx rfl (1 : Int32) (hb hby at_347) (by decide) (XS.goto X53.here hx rfl (pc0 := 348) (pc' := 352) rfl (hb hby at_348) (by decide) (by decide) k))))) ?_
            obtain ⟨fs, hr, hrun, hended, hW, hsame⟩ := X53.leave (v := (some (.int (1 : Int32)))) (fun h => by rw [hret] at h; cases h)
            refine Wp.done (retN X53 hx (t := .boolean) hret (by simp) (hb hby at_352) hr) hrun hended ⟨_, _, rfl, ?_, ⟨_, rfl⟩, hW, hsame.mono (by decide) (by decide)⟩
            show QL n0 _ T53.heap _
            exact ⟨rfl, N53⟩
  · rw [hk4]
    refine Wp.back (U' := (s₁.setTop (mkF m 77 #[.val (.int p0), .val (.int p1), .val (.long q2), .second, .val (.int (4 : Int32)), .unset, .unset, .unset, .unset, .unset, .unset, .unset, .unset, .unset, .unset, .unset, .unset, .unset, .unset, .unset, .unset, .unset, .unset, .unset] [(.int (16383 : Int32)), (.int p0), (.long (2 : Int64))]))) (fun t k => XS.iload X0.here hx rfl (hb hby at_7) rfl (XT.iconstV X0.here hx rfl (1 : Int32) (hb hby at_9) (by decide) (XS.icmpYes X0.here hx rfl (pc0 := 10) (pc' := 30) rfl (hb hby at_10) rfl (feq (by decide)).2 (by decide) (by decide) (XS.iload X0.here hx rfl (hb hby at_30) rfl (XT.iconstV X0.here hx rfl (2 : Int32) (hb hby at_32) (by decide) (XS.icmpYes X0.here hx rfl (pc0 := 33) (pc' := 50) rfl (hb hby at_33) rfl (feq (by decide)).2 (by decide) (by decide) (XS.iload X0.here hx rfl (hb hby at_50) rfl (XT.iconstV X0.here hx rfl (3 : Int32) (hb hby at_52) (by decide) (XS.icmpYes X0.here hx rfl (pc0 := 53) (pc' := 70) rfl (hb hby at_53) rfl (feq (by decide)).2 (by decide) (by decide) (Jvm.Stand.ldc2J X0 hx hown (mvT hZ (hw _ (List.mem_of_getElem? (i := 0) rfl))) rfl (hb hby at_70) (XS.iloadN X0.here hx rfl (hb hby at_73) rfl (XT.sipushV X0.here hx rfl (16383 : Int32) (hb hby at_74) (by decide) k)))))))))))) ?_
    refine Wp.back (U' := (s₁.setTop (mkF m 82 #[.val (.int p0), .val (.int p1), .val (.long q2), .second, .val (.int (4 : Int32)), .val (.long ((2 : Int64) + ((p0 &&& (16383 : Int32))).toInt64)), .second, .unset, .unset, .unset, .unset, .unset, .unset, .unset, .unset, .unset, .unset, .unset, .unset, .unset, .unset, .unset, .unset, .unset] []))) (fun t k => XS.iand X0.here hx rfl (hb hby at_77) rfl (XS.i2l X0.here hx rfl (hb hby at_78) rfl (XS.ladd X0.here hx rfl (hb hby at_79) rfl (XS.lstore X0.here hx rfl (hb hby at_80) rfl (l' := #[.val (.int p0), .val (.int p1), .val (.long q2), .second, .val (.int (4 : Int32)), .val (.long ((2 : Int64) + ((p0 &&& (16383 : Int32))).toInt64)), .second, .unset, .unset, .unset, .unset, .unset, .unset, .unset, .unset, .unset, .unset, .unset, .unset, .unset, .unset, .unset, .unset, .unset]) rfl k)))) ?_
    have hm : 2 ≤ (((2 : Int64) + ((p0 &&& (16383 : Int32))).toInt64)).toInt ∧ (((2 : Int64) + ((p0 &&& (16383 : Int32))).toInt64)).toInt < 2147483648 := own_m4 p0
    generalize ((2 : Int64) + ((p0 &&& (16383 : Int32))).toInt64) = mm at hm ⊢
    refine Wp.back (U' := (s₁.setTop (mkF m 101 #[.val (.int p0), .val (.int p1), .val (.long q2), .second, .val (.int (4 : Int32)), .val (.long mm), .second, .val (.long ((144115188075855872 : Int64) / mm)), .second, .unset, .unset, .unset, .unset, .unset, .unset, .unset, .unset, .unset, .unset, .unset, .unset, .unset, .unset, .unset] [(.int (lcmpW mm ((144115188075855872 : Int64) / mm)))]))) (fun t k => Jvm.Stand.ldc2J X0 hx hown (mvT hZ (hw _ (List.mem_of_getElem? (i := 1) rfl))) rfl (hb hby at_82) (XS.lload X0.here hx rfl (hb hby at_85) rfl (XS.ldiv X0.here hx rfl (hb hby at_87) rfl (own_mz hm) (XS.lstore X0.here hx rfl (hb hby at_88) rfl (l' := #[.val (.int p0), .val (.int p1), .val (.long q2), .second, .val (.int (4 : Int32)), .val (.long mm), .second, .val (.long ((144115188075855872 : Int64) / mm)), .second, .unset, .unset, .unset, .unset, .unset, .unset, .unset, .unset, .unset, .unset, .unset, .unset, .unset, .unset, .unset]) rfl (XS.iload X0.here hx rfl (hb hby at_90) rfl (XT.iconstV X0.here hx rfl (2 : Int32) (hb hby at_92) (by decide) (XS.icmpNo X0.here hx rfl (hb hby at_93) rfl (flt (by decide)).1 (XS.lload X0.here hx rfl (hb hby at_96) rfl (XS.lload X0.here hx rfl (hb hby at_98) rfl (XS.lcmp X0.here hx rfl (hb hby at_100) rfl k)))))))))) ?_
    by_cases c101_55 : ((144115188075855872 : Int64) / mm) < mm
    · refine Wp.back (U' := (s₁.setTop (mkF m 105 #[.val (.int p0), .val (.int p1), .val (.long q2), .second, .val (.int (4 : Int32)), .val (.long mm), .second, .val (.long ((144115188075855872 : Int64) / mm)), .second, .unset, .unset, .unset, .unset, .unset, .unset, .unset, .unset, .unset, .unset, .unset, .unset, .unset, .unset, .unset] [(.int (1 : Int32))]))) (fun t k => XS.ifNo X0.here hx rfl (hb hby at_101) rfl ((if0 _ _).trans (tlt ((lw_gt mm ((144115188075855872 : Int64) / mm)).mpr c101_55)).2.2.2) (XT.iconstV X0.here hx rfl (1 : Int32) (hb hby at_104) (by decide) k)) ?_
      obtain ⟨fs, hr, hrun, hended, hW, hsame⟩ := X0.leave (v := (some (.int (1 : Int32)))) (fun h => by rw [hret] at h; cases h)
      refine Wp.done (retN X0 hx (t := .boolean) hret (by simp) (hb hby at_105) hr) hrun hended ⟨_, _, rfl, ?_, ⟨_, rfl⟩, hW, hsame.mono (by decide) (by decide)⟩
      show QL n0 _ s₁.heap _
      exact ⟨rfl, N0⟩
    · refine Wp.back (U' := (s₁.setTop (mkF m 120 #[.val (.int p0), .val (.int p1), .val (.long q2), .second, .val (.int (4 : Int32)), .val (.long mm), .second, .val (.long ((144115188075855872 : Int64) / mm)), .second, .unset, .unset, .unset, .unset, .unset, .unset, .unset, .unset, .unset, .unset, .unset, .unset, .unset, .unset, .unset] [(.int (lcmpW (mm * mm) ((144115188075855872 : Int64) / mm)))]))) (fun t k => XS.ifYes X0.here hx rfl (pc0 := 101) (pc' := 106) rfl (hb hby at_101) rfl ((if0 _ _).trans (flt (fun q => c101_55 ((lw_gt mm ((144115188075855872 : Int64) / mm)).mp q))).2.2.2) (by decide) (by decide) (XS.iload X0.here hx rfl (hb hby at_106) rfl (XT.iconstV X0.here hx rfl (3 : Int32) (hb hby at_108) (by decide) (XS.icmpNo X0.here hx rfl (hb hby at_109) rfl (flt (by decide)).1 (XS.lload X0.here hx rfl (hb hby at_112) rfl (XS.lload X0.here hx rfl (hb hby at_114) rfl (XS.lmul X0.here hx rfl (hb hby at_116) rfl (XS.lload X0.here hx rfl (hb hby at_117) rfl (XS.lcmp X0.here hx rfl (hb hby at_119) rfl k))))))))) ?_
      by_cases c120_56 : ((144115188075855872 : Int64) / mm) < (mm * mm)
      · refine Wp.back (U' := (s₁.setTop (mkF m 124 #[.val (.int p0), .val (.int p1), .val (.long q2), .second, .val (.int (4 : Int32)), .val (.long mm), .second, .val (.long ((144115188075855872 : Int64) / mm)), .second, .unset, .unset, .unset, .unset, .unset, .unset, .unset, .unset, .unset, .unset, .unset, .unset, .unset, .unset, .unset] [(.int (1 : Int32))]))) (fun t k => XS.ifNo X0.here hx rfl (hb hby at_120) rfl ((if0 _ _).trans (tlt ((lw_gt (mm * mm) ((144115188075855872 : Int64) / mm)).mpr c120_56)).2.2.2) (XT.iconstV X0.here hx rfl (1 : Int32) (hb hby at_123) (by decide) k)) ?_
        obtain ⟨fs, hr, hrun, hended, hW, hsame⟩ := X0.leave (v := (some (.int (1 : Int32)))) (fun h => by rw [hret] at h; cases h)
        refine Wp.done (retN X0 hx (t := .boolean) hret (by simp) (hb hby at_124) hr) hrun hended ⟨_, _, rfl, ?_, ⟨_, rfl⟩, hW, hsame.mono (by decide) (by decide)⟩
        show QL n0 _ s₁.heap _
        exact ⟨rfl, N0⟩
      · refine Wp.back (U' := (s₁.setTop (mkF m 142 #[.val (.int p0), .val (.int p1), .val (.long q2), .second, .val (.int (4 : Int32)), .val (.long mm), .second, .val (.long ((144115188075855872 : Int64) / mm)), .second, .unset, .unset, .unset, .unset, .unset, .unset, .unset, .unset, .unset, .unset, .unset, .unset, .unset, .unset, .unset] [(.int (lcmpW ((mm * mm) * mm) ((144115188075855872 : Int64) / mm)))]))) (fun t k => XS.ifYes X0.here hx rfl (pc0 := 120) (pc' := 125) rfl (hb hby at_120) rfl ((if0 _ _).trans (flt (fun q => c120_56 ((lw_gt (mm * mm) ((144115188075855872 : Int64) / mm)).mp q))).2.2.2) (by decide) (by decide) (XS.iload X0.here hx rfl (hb hby at_125) rfl (XT.iconstV X0.here hx rfl (4 : Int32) (hb hby at_127) (by decide) (XS.icmpNo X0.here hx rfl (hb hby at_128) rfl (flt (by decide)).1 (XS.lload X0.here hx rfl (hb hby at_131) rfl (XS.lload X0.here hx rfl (hb hby at_133) rfl (XS.lmul X0.here hx rfl (hb hby at_135) rfl (XS.lload X0.here hx rfl (hb hby at_136) rfl (XS.lmul X0.here hx rfl (hb hby at_138) rfl (XS.lload X0.here hx rfl (hb hby at_139) rfl (XS.lcmp X0.here hx rfl (hb hby at_141) rfl k))))))))))) ?_
        by_cases c142_57 : ((144115188075855872 : Int64) / mm) < ((mm * mm) * mm)
        · refine Wp.back (U' := (s₁.setTop (mkF m 146 #[.val (.int p0), .val (.int p1), .val (.long q2), .second, .val (.int (4 : Int32)), .val (.long mm), .second, .val (.long ((144115188075855872 : Int64) / mm)), .second, .unset, .unset, .unset, .unset, .unset, .unset, .unset, .unset, .unset, .unset, .unset, .unset, .unset, .unset, .unset] [(.int (1 : Int32))]))) (fun t k => XS.ifNo X0.here hx rfl (hb hby at_142) rfl ((if0 _ _).trans (tlt ((lw_gt ((mm * mm) * mm) ((144115188075855872 : Int64) / mm)).mpr c142_57)).2.2.2) (XT.iconstV X0.here hx rfl (1 : Int32) (hb hby at_145) (by decide) k)) ?_
          obtain ⟨fs, hr, hrun, hended, hW, hsame⟩ := X0.leave (v := (some (.int (1 : Int32)))) (fun h => by rw [hret] at h; cases h)
          refine Wp.done (retN X0 hx (t := .boolean) hret (by simp) (hb hby at_146) hr) hrun hended ⟨_, _, rfl, ?_, ⟨_, rfl⟩, hW, hsame.mono (by decide) (by decide)⟩
          show QL n0 _ s₁.heap _
          exact ⟨rfl, N0⟩
        · refine Wp.back (U' := (s₁.setTop (mkF m 167 #[.val (.int p0), .val (.int p1), .val (.long q2), .second, .val (.int (4 : Int32)), .val (.long mm), .second, .val (.long ((144115188075855872 : Int64) / mm)), .second, .val (.long (mm * mm)), .second, .unset, .unset, .unset, .unset, .unset, .unset, .unset, .unset, .unset, .unset, .unset, .unset, .unset] [(.int (3 : Int32)), (.int (4 : Int32))]))) (fun t k => XS.ifYes X0.here hx rfl (pc0 := 142) (pc' := 147) rfl (hb hby at_142) rfl ((if0 _ _).trans (flt (fun q => c142_57 ((lw_gt ((mm * mm) * mm) ((144115188075855872 : Int64) / mm)).mp q))).2.2.2) (by decide) (by decide) (XS.lload X0.here hx rfl (hb hby at_147) rfl (XS.lstore X0.here hx rfl (hb hby at_149) rfl (l' := #[.val (.int p0), .val (.int p1), .val (.long q2), .second, .val (.int (4 : Int32)), .val (.long mm), .second, .val (.long ((144115188075855872 : Int64) / mm)), .second, .val (.long mm), .second, .unset, .unset, .unset, .unset, .unset, .unset, .unset, .unset, .unset, .unset, .unset, .unset, .unset]) rfl (XS.iload X0.here hx rfl (hb hby at_151) rfl (XT.iconstV X0.here hx rfl (2 : Int32) (hb hby at_153) (by decide) (XS.icmpNo X0.here hx rfl (hb hby at_154) rfl (flt (by decide)).1 (XS.lload X0.here hx rfl (hb hby at_157) rfl (XS.lload X0.here hx rfl (hb hby at_159) rfl (XS.lmul X0.here hx rfl (hb hby at_161) rfl (XS.lstore X0.here hx rfl (hb hby at_162) rfl (l' := #[.val (.int p0), .val (.int p1), .val (.long q2), .second, .val (.int (4 : Int32)), .val (.long mm), .second, .val (.long ((144115188075855872 : Int64) / mm)), .second, .val (.long (mm * mm)), .second, .unset, .unset, .unset, .unset, .unset, .unset, .unset, .unset, .unset, .unset, .unset, .unset, .unset]) rfl (XS.iload X0.here hx rfl (hb hby at_164) rfl (XT.iconstV X0.here hx rfl (3 : Int32) (hb hby at_166) (by decide) k)))))))))))) ?_
          refine Wp.back (U' := (s₁.setTop (mkF m 190 #[.val (.int p0), .val (.int p1), .val (.long q2), .second, .val (.int (4 : Int32)), .val (.long mm), .second, .val (.long ((144115188075855872 : Int64) / mm)), .second, .val (.long (((mm * mm) * mm) * mm)), .second, .unset, .unset, .unset, .unset, .unset, .unset, .unset, .unset, .unset, .unset, .unset, .unset, .unset] []))) (fun t k => XS.icmpNo X0.here hx rfl (hb hby at_167) rfl (flt (by decide)).1 (XS.lload X0.here hx rfl (hb hby at_170) rfl (XS.lload X0.here hx rfl (hb hby at_172) rfl (XS.lmul X0.here hx rfl (hb hby at_174) rfl (XS.lstore X0.here hx rfl (hb hby at_175) rfl (l' := #[.val (.int p0), .val (.int p1), .val (.long q2), .second, .val (.int (4 : Int32)), .val (.long mm), .second, .val (.long ((144115188075855872 : Int64) / mm)), .second, .val (.long ((mm * mm) * mm)), .second, .unset, .unset, .unset, .unset, .unset, .unset, .unset, .unset, .unset, .unset, .unset, .unset, .unset]) rfl (XS.iload X0.here hx rfl (hb hby at_177) rfl (XT.iconstV X0.here hx rfl (4 : Int32) (hb hby at_179) (by decide) (XS.icmpNo X0.here hx rfl (hb hby at_180) rfl (flt (by decide)).1 (XS.lload X0.here hx rfl (hb hby at_183) rfl (XS.lload X0.here hx rfl (hb hby at_185) rfl (XS.lmul X0.here hx rfl (hb hby at_187) rfl (XS.lstore X0.here hx rfl (hb hby at_188) rfl (l' := #[.val (.int p0), .val (.int p1), .val (.long q2), .second, .val (.int (4 : Int32)), .val (.long mm), .second, .val (.long ((144115188075855872 : Int64) / mm)), .second, .val (.long (((mm * mm) * mm) * mm)), .second, .unset, .unset, .unset, .unset, .unset, .unset, .unset, .unset, .unset, .unset, .unset, .unset, .unset]) rfl k)))))))))))) ?_
          obtain ⟨T58, h58, X58, e58, E58, A58, D58, -, st58⟩ := newO X0 hx hZ hown (hw _ (List.mem_of_getElem? (i := 2) rfl)) (hw _ (List.mem_of_getElem? (i := 3) rfl)) (hw _ (List.mem_of_getElem? (i := 4) rfl)) e0 (g := (mkF m 190 #[.val (.int p0), .val (.int p1), .val (.long q2), .second, .val (.int (4 : Int32)), .val (.long mm), .second, .val (.long ((144115188075855872 : Int64) / mm)), .second, .val (.long (((mm * mm) * mm) * mm)), .second, .unset, .unset, .unset, .unset, .unset, .unset, .unset, .unset, .unset, .unset, .unset, .unset, .unset] [])) rfl (hb hby at_190) (by decide) (by decide)
          obtain ⟨b58, g58⟩ : ∃ z, z = h0.size := ⟨_, rfl⟩
          rw [← g58] at A58 D58 st58
          have g_b58 : n0 ≤ b58 := Nat.le_trans Z0 (Nat.le_of_eq g58.symm)
          have f59_0 := Nat.le_trans Z0 E58.1
          have F58_13 : Fld Z h58 b58 "com/example/known_leaks/knownleaks/CellPacking" "powers" "[J" .null := D58 (Or.inr (hw _ (List.mem_of_getElem? (i := 13) rfl))) (ty := (.array .long)) (by decide)
          have F58_16 : Fld Z h58 b58 "com/example/known_leaks/knownleaks/CellPacking" "modulus" "I" (.int (0 : Int32)) := D58 (Or.inr (hw _ (List.mem_of_getElem? (i := 16) rfl))) (ty := .int) (by decide)
          have F58_18 : Fld Z h58 b58 "com/example/known_leaks/knownleaks/CellPacking" "cellsPerBlock" "I" (.int (0 : Int32)) := D58 (Or.inr (hw _ (List.mem_of_getElem? (i := 18) rfl))) (ty := .int) (by decide)
          have F58_29 : Fld Z h58 b58 "com/example/known_leaks/knownleaks/CellPacking" "blockBits" "I" (.int (0 : Int32)) := D58 (Or.inr (hw _ (List.mem_of_getElem? (i := 29) rfl))) (ty := .int) (by decide)
          refine Wp.back (U' := (T58.setTop (mkF m 193 #[.val (.int p0), .val (.int p1), .val (.long q2), .second, .val (.int (4 : Int32)), .val (.long mm), .second, .val (.long ((144115188075855872 : Int64) / mm)), .second, .val (.long (((mm * mm) * mm) * mm)), .second, .unset, .unset, .unset, .unset, .unset, .unset, .unset, .unset, .unset, .unset, .unset, .unset, .unset] [(.ref b58)]))) st58 ?_
          refine Wp.back (U' := (T58.setTop (mkF m 199 #[.val (.int p0), .val (.int p1), .val (.long q2), .second, .val (.int (4 : Int32)), .val (.long mm), .second, .val (.long ((144115188075855872 : Int64) / mm)), .second, .val (.long (((mm * mm) * mm) * mm)), .second, .unset, .unset, .unset, .unset, .unset, .unset, .unset, .unset, .unset, .unset, .unset, .unset, .unset] [(.int (4 : Int32)), (.int (mm).toInt32), (.ref b58), (.ref b58)]))) (fun t k => XS.dup X58.here hx rfl (hb hby at_193) rfl rfl (XS.lload X58.here hx rfl (hb hby at_194) rfl (XS.l2i X58.here hx rfl (hb hby at_196) rfl (XS.iload X58.here hx rfl (hb hby at_197) rfl k)))) ?_
          obtain ⟨_, _, ⟨T60, L60, k60, n60⟩, -, X60, ⟨Lc60, hQ60, l60, y60, z60⟩, st60⟩ := X58.specialBack hx (y := (⟨"com/example/known_leaks/knownleaks/CellPacking", "<init>", "(II)V"⟩ : MethodName)) rfl hown (mvT hZ (hw _ (List.mem_of_getElem? (i := 5) rfl))) (mvT hZ (hw _ (List.mem_of_getElem? (i := 6) rfl))) (mvT hZ (hw _ (List.mem_of_getElem? (i := 7) rfl))) (by decide) (backOf (W := 1) (rm_ini4 l Z a0 hw [] b58 (mm).toInt32  h58 n0 f59_0 A58 F58_13 F58_16 F58_18 F58_29 g_b58 (own_c2 hm) (own_cz hm) (own_p4_0 hm c101_55 c120_56 c142_57) (own_p4_1 hm c101_55 c120_56 c142_57) (own_p4_2 hm c101_55 c120_56 c142_57) (own_p4_3 hm c101_55 c120_56 c142_57)) hZ (hw _ (List.mem_of_getElem? (i := 7) rfl)) (hw _ (List.mem_of_getElem? (i := 4) rfl)) (by decide) (by decide)) (g := (mkF m 199 #[.val (.int p0), .val (.int p1), .val (.long q2), .second, .val (.int (4 : Int32)), .val (.long mm), .second, .val (.long ((144115188075855872 : Int64) / mm)), .second, .val (.long (((mm * mm) * mm) * mm)), .second, .unset, .unset, .unset, .unset, .unset, .unset, .unset, .unset, .unset, .unset, .unset, .unset, .unset] [(.int (4 : Int32)), (.int (mm).toInt32), (.ref b58), (.ref b58)])) rfl (by rw [hml]; rfl) (Steps.refl _) (a := b58) (argsL := [(.int (mm).toInt32), (.int (4 : Int32))]) (rest := [(.ref b58)]) (lenOf pd0_0 rfl) rfl (by show 2 * 0 + _ ≤ _; exact Nat.le_of_eq rfl) (hb hby at_199) (fun _ _ => ⟨rfl, e58, (by decide : 1 + 1 ≤ _), (by decide : 4 + 4 ≤ _)⟩)
          dsimp only [Pt.U, Pt.locs, Pt.cells, Pt.slots] at X60 l60 y60 z60 st60 hQ60
          subst l60 y60 z60
          obtain ⟨rfl, N60q, K60, o60_0, o60_1, o60_2⟩ := hQ60
          have f61_0 := Nat.le_trans f59_0 K60.1
          have f61_1 := A58.keep K60
          have N60 := Fr.app N0 N60q
          refine Wp.back (U' := (T60.setTop (mkF m 202 #[.val (.int p0), .val (.int p1), .val (.long q2), .second, .val (.int (4 : Int32)), .val (.long mm), .second, .val (.long ((144115188075855872 : Int64) / mm)), .second, .val (.long (((mm * mm) * mm) * mm)), .second, .unset, .unset, .unset, .unset, .unset, .unset, .unset, .unset, .unset, .unset, .unset, .unset, .unset] [(.ref b58)]))) (fun t k => st60.trans k) ?_
          refine Wp.back (U' := (T60.setTop (mkF m 204 #[.val (.int p0), .val (.int p1), .val (.long q2), .second, .val (.int (4 : Int32)), .val (.long mm), .second, .val (.long ((144115188075855872 : Int64) / mm)), .second, .val (.long (((mm * mm) * mm) * mm)), .second, .val (.ref b58), .unset, .unset, .unset, .unset, .unset, .unset, .unset, .unset, .unset, .unset, .unset, .unset] []))) (fun t k => XS.astore X60.here hx rfl (hb hby at_202) rfl rfl (l' := #[.val (.int p0), .val (.int p1), .val (.long q2), .second, .val (.int (4 : Int32)), .val (.long mm), .second, .val (.long ((144115188075855872 : Int64) / mm)), .second, .val (.long (((mm * mm) * mm) * mm)), .second, .val (.ref b58), .unset, .unset, .unset, .unset, .unset, .unset, .unset, .unset, .unset, .unset, .unset, .unset]) rfl k) ?_
          have hB := own_bb4 hm c101_55 c120_56 c142_57
          generalize ((64 : Int32) - (f_lnz ((((((1 : Int64) * ((mm).toInt32).toInt64) * ((mm).toInt32).toInt64) * ((mm).toInt32).toInt64) * ((mm).toInt32).toInt64) - (1 : Int64)))) = bb at hB o60_2 ⊢
          refine Wp.back (U' := (T60.setTop (mkF m 213 #[.val (.int p0), .val (.int p1), .val (.long q2), .second, .val (.int (4 : Int32)), .val (.long mm), .second, .val (.long ((144115188075855872 : Int64) / mm)), .second, .val (.long (((mm * mm) * mm) * mm)), .second, .val (.ref b58), .unset, .unset, .unset, .unset, .unset, .unset, .unset, .unset, .unset, .unset, .unset, .unset] [(.long (32 : Int64)), (.ref b58)]))) (fun t k => XS.aload X60.here hx rfl (hb hby at_204) rfl rfl (Jvm.Stand.ldc2J X60 hx hown (mvT hZ (hw _ (List.mem_of_getElem? (i := 30) rfl))) rfl (hb hby at_206) (XS.iload X60.here hx rfl (hb hby at_209) rfl (XS.i2l X60.here hx rfl (hb hby at_211) rfl (XS.lmul X60.here hx rfl (hb hby at_212) rfl k))))) ?_
          obtain ⟨cq62, kq62, q62a, q62b, q62c⟩ := isOf hZ rfl o60_0
          obtain ⟨_, _, ⟨T62, L62, k62, n62⟩, -, X62, ⟨Lc62, hQ62, l62, y62, z62⟩, st62⟩ := X60.virtualBack hx (y := (⟨"com/example/known_leaks/knownleaks/CellPacking", "bytes", "(J)J"⟩ : MethodName)) (z := (⟨"com/example/known_leaks/knownleaks/CellPacking", "bytes", "(J)J"⟩ : MethodName)) hown (mvT hZ (hw _ (List.mem_of_getElem? (i := 31) rfl))) (mvT hZ (hw _ (List.mem_of_getElem? (i := 32) rfl))) (notFace_of_selects (args := #[]) (mvT hZ (hw _ (List.mem_of_getElem? (i := 34) rfl)))) (mvT hZ (hw _ (List.mem_of_getElem? (i := 34) rfl))) (mvT hZ (hw _ (List.mem_of_getElem? (i := 33) rfl))) (by decide) (backOf (W := 0) (rm_be4 l Z a0 hw [] b58 bb T60.heap n0 f61_0 o60_1 o60_2) hZ (hw _ (List.mem_of_getElem? (i := 35) rfl)) (hw _ (List.mem_of_getElem? (i := 4) rfl)) (by decide) (by decide)) q62a q62c (g := (mkF m 213 #[.val (.int p0), .val (.int p1), .val (.long q2), .second, .val (.int (4 : Int32)), .val (.long mm), .second, .val (.long ((144115188075855872 : Int64) / mm)), .second, .val (.long (((mm * mm) * mm) * mm)), .second, .val (.ref b58), .unset, .unset, .unset, .unset, .unset, .unset, .unset, .unset, .unset, .unset, .unset, .unset] [(.long (32 : Int64)), (.ref b58)])) rfl (by rw [hml]; rfl) (Steps.refl _) (argsL := [(.long (32 : Int64))]) (rest := []) (lenOf pd0_1 rfl) rfl (by show 2 * 0 + _ ≤ _; exact Nat.le_of_eq rfl) (hb hby at_213) (fun _ _ => ⟨rfl, rfl, (by decide : 2 + 0 ≤ _), (by decide : 8 + 0 ≤ _)⟩)
          dsimp only [Pt.U, Pt.locs, Pt.cells, Pt.slots] at X62 l62 y62 z62 st62 hQ62
          subst l62 y62 z62
          obtain ⟨rfl, N62q, K62⟩ := hQ62
          have f63_0 := Nat.le_trans f61_0 K62.1
          have f63_1 := o60_0.keep K62
          have f63_2 := o60_1.keep K62 nin0
          have f63_3 := o60_2.keep K62 nin0
          have N62 := Fr.app N60 N62q
          refine Wp.back (U' := (T62.setTop (mkF m 216 #[.val (.int p0), .val (.int p1), .val (.long q2), .second, .val (.int (4 : Int32)), .val (.long mm), .second, .val (.long ((144115188075855872 : Int64) / mm)), .second, .val (.long (((mm * mm) * mm) * mm)), .second, .val (.ref b58), .unset, .unset, .unset, .unset, .unset, .unset, .unset, .unset, .unset, .unset, .unset, .unset] [(.long ((((8 : Int64) * (bb).toInt64) + (7 : Int64)) / (8 : Int64)))]))) (fun t k => st62.trans k) ?_
          refine Wp.back (U' := (T62.setTop (mkF m 218 #[.val (.int p0), .val (.int p1), .val (.long q2), .second, .val (.int (4 : Int32)), .val (.long mm), .second, .val (.long ((144115188075855872 : Int64) / mm)), .second, .val (.long (((mm * mm) * mm) * mm)), .second, .val (.ref b58), .val (.long ((((8 : Int64) * (bb).toInt64) + (7 : Int64)) / (8 : Int64))), .second, .unset, .unset, .unset, .unset, .unset, .unset, .unset, .unset, .unset, .unset] []))) (fun t k => XS.lstore X62.here hx rfl (hb hby at_216) rfl (l' := #[.val (.int p0), .val (.int p1), .val (.long q2), .second, .val (.int (4 : Int32)), .val (.long mm), .second, .val (.long ((144115188075855872 : Int64) / mm)), .second, .val (.long (((mm * mm) * mm) * mm)), .second, .val (.ref b58), .val (.long ((((8 : Int64) * (bb).toInt64) + (7 : Int64)) / (8 : Int64))), .second, .unset, .unset, .unset, .unset, .unset, .unset, .unset, .unset, .unset, .unset]) rfl k) ?_
          rw [show ((((8 : Int64) * (bb).toInt64) + (7 : Int64)) / (8 : Int64)) = (bb).toInt64 from own_b8 hB.1]
          refine Wp.back (U' := (T62.setTop (mkF m 242 #[.val (.int p0), .val (.int p1), .val (.long q2), .second, .val (.int (4 : Int32)), .val (.long mm), .second, .val (.long ((144115188075855872 : Int64) / mm)), .second, .val (.long (((mm * mm) * mm) * mm)), .second, .val (.ref b58), .val (.long (bb).toInt64), .second, .val (.long ((((mm * mm) * mm) * mm) - (1 : Int64))), .second, .unset, .unset, .unset, .unset, .unset, .unset, .unset, .unset] []))) (fun t k => XS.lload X62.here hx rfl (hb hby at_218) rfl (XT.lconstV X62.here hx rfl (1 : Int64) (hb hby at_220) (by decide) (XS.lcmp X62.here hx rfl (hb hby at_221) rfl (XS.ifNo X62.here hx rfl (hb hby at_222) rfl ((if0 _ _).trans (flt (fun q => (own_l1 hB.1) ((lw_lt (bb).toInt64 (1 : Int64)).mp q))).1) (XS.lload X62.here hx rfl (hb hby at_225) rfl (Jvm.Stand.ldc2J X62 hx hown (mvT hZ (hw _ (List.mem_of_getElem? (i := 38) rfl))) rfl (hb hby at_227) (XS.lcmp X62.here hx rfl (hb hby at_230) rfl (XS.ifYes X62.here hx rfl (pc0 := 231) (pc' := 236) rfl (hb hby at_231) rfl ((if0 _ _).trans (flt (fun q => (own_l2 hB.1) ((lw_gt (bb).toInt64 (57 : Int64)).mp q))).2.2.2) (by decide) (by decide) (XS.lload X62.here hx rfl (hb hby at_236) rfl (XT.lconstV X62.here hx rfl (1 : Int64) (hb hby at_238) (by decide) (XS.lsub X62.here hx rfl (hb hby at_239) rfl (XS.lstore X62.here hx rfl (hb hby at_240) rfl (l' := #[.val (.int p0), .val (.int p1), .val (.long q2), .second, .val (.int (4 : Int32)), .val (.long mm), .second, .val (.long ((144115188075855872 : Int64) / mm)), .second, .val (.long (((mm * mm) * mm) * mm)), .second, .val (.ref b58), .val (.long (bb).toInt64), .second, .val (.long ((((mm * mm) * mm) * mm) - (1 : Int64))), .second, .unset, .unset, .unset, .unset, .unset, .unset, .unset, .unset]) rfl k)))))))))))) ?_
          refine Wp.back (U' := (T62.setTop (mkF m 260 #[.val (.int p0), .val (.int p1), .val (.long q2), .second, .val (.int (4 : Int32)), .val (.long mm), .second, .val (.long ((144115188075855872 : Int64) / mm)), .second, .val (.long (((mm * mm) * mm) * mm)), .second, .val (.ref b58), .val (.long (bb).toInt64), .second, .val (.long ((((mm * mm) * mm) * mm) - (1 : Int64))), .second, .unset, .unset, .unset, .unset, .unset, .unset, .unset, .unset] [(.long ((bb).toInt64 - (1 : Int64))), (.long (1 : Int64)), (.long ((((mm * mm) * mm) * mm) - (1 : Int64)))]))) (fun t k => XS.lload X62.here hx rfl (hb hby at_242) rfl (XT.lconstV X62.here hx rfl (1 : Int64) (hb hby at_244) (by decide) (XS.lload X62.here hx rfl (hb hby at_245) rfl (XS.l2i X62.here hx rfl (hb hby at_247) rfl (XS.lshl X62.here hx rfl (hb hby at_248) rfl (XS.lcmp X62.here hx rfl (hb hby at_249) rfl (XS.ifNo X62.here hx rfl (hb hby at_250) rfl ((if0 _ _).trans (tlt ((lw_lt ((((mm * mm) * mm) * mm) - (1 : Int64)) ((1 : Int64) <<< (((bb).toInt64).toInt32 &&& 0x3f).toInt64)).mpr (own_t1 hB))).2.1) (XS.lload X62.here hx rfl (hb hby at_253) rfl (XT.lconstV X62.here hx rfl (1 : Int64) (hb hby at_255) (by decide) (XS.lload X62.here hx rfl (hb hby at_256) rfl (XT.lconstV X62.here hx rfl (1 : Int64) (hb hby at_258) (by decide) (XS.lsub X62.here hx rfl (hb hby at_259) rfl k)))))))))))) ?_
          refine Wp.back (U' := (T62.setTop (mkF m 275 #[.val (.int p0), .val (.int p1), .val (.long q2), .second, .val (.int (4 : Int32)), .val (.long mm), .second, .val (.long ((144115188075855872 : Int64) / mm)), .second, .val (.long (((mm * mm) * mm) * mm)), .second, .val (.ref b58), .val (.long (bb).toInt64), .second, .val (.long ((((mm * mm) * mm) * mm) - (1 : Int64))), .second, .val (.long (q2 &&& (72057594037927935 : Int64))), .second, .unset, .unset, .unset, .unset, .unset, .unset] []))) (fun t k => XS.l2i X62.here hx rfl (hb hby at_260) rfl (XS.lshl X62.here hx rfl (hb hby at_261) rfl (XS.lcmp X62.here hx rfl (hb hby at_262) rfl (XS.ifYes X62.here hx rfl (pc0 := 263) (pc' := 268) rfl (hb hby at_263) rfl ((if0 _ _).trans (flt (fun q => (own_t2 hB) ((lw_lt ((((mm * mm) * mm) * mm) - (1 : Int64)) ((1 : Int64) <<< ((((bb).toInt64 - (1 : Int64))).toInt32 &&& 0x3f).toInt64)).mp q))).2.1) (by decide) (by decide) (XS.lloadN X62.here hx rfl (hb hby at_268) rfl (Jvm.Stand.ldc2J X62 hx hown (mvT hZ (hw _ (List.mem_of_getElem? (i := 39) rfl))) rfl (hb hby at_269) (XS.land X62.here hx rfl (hb hby at_272) rfl (XS.lstore X62.here hx rfl (hb hby at_273) rfl (l' := #[.val (.int p0), .val (.int p1), .val (.long q2), .second, .val (.int (4 : Int32)), .val (.long mm), .second, .val (.long ((144115188075855872 : Int64) / mm)), .second, .val (.long (((mm * mm) * mm) * mm)), .second, .val (.ref b58), .val (.long (bb).toInt64), .second, .val (.long ((((mm * mm) * mm) * mm) - (1 : Int64))), .second, .val (.long (q2 &&& (72057594037927935 : Int64))), .second, .unset, .unset, .unset, .unset, .unset, .unset]) rfl k)))))))) ?_
          have hc := own_cl q2
          generalize (q2 &&& (72057594037927935 : Int64)) = cc at hc ⊢
          refine Wp.back (U' := (T62.setTop (mkF m 289 #[.val (.int p0), .val (.int p1), .val (.long q2), .second, .val (.int (4 : Int32)), .val (.long mm), .second, .val (.long ((144115188075855872 : Int64) / mm)), .second, .val (.long (((mm * mm) * mm) * mm)), .second, .val (.ref b58), .val (.long (bb).toInt64), .second, .val (.long ((((mm * mm) * mm) * mm) - (1 : Int64))), .second, .val (.long cc), .second, .unset, .unset, .unset, .unset, .unset, .unset] [(.int (lcmpW (cc - (cc / (4 : Int64)) * (4 : Int64)) (0 : Int64))), (.long (cc / (4 : Int64)))]))) (fun t k => XS.lload X62.here hx rfl (hb hby at_275) rfl (XS.iload X62.here hx rfl (hb hby at_277) rfl (XS.i2l X62.here hx rfl (hb hby at_279) rfl (XS.ldiv X62.here hx rfl (hb hby at_280) rfl (by decide) (XS.lload X62.here hx rfl (hb hby at_281) rfl (XS.iload X62.here hx rfl (hb hby at_283) rfl (XS.i2l X62.here hx rfl (hb hby at_285) rfl (XS.lrem X62.here hx rfl (hb hby at_286) rfl (by decide) (XT.lconstV X62.here hx rfl (0 : Int64) (hb hby at_287) (by decide) (XS.lcmp X62.here hx rfl (hb hby at_288) rfl k)))))))))) ?_
          by_cases c289_64 : (cc - (cc / (4 : Int64)) * (4 : Int64)) = (0 : Int64)
          · refine Wp.back (U' := (T62.setTop (mkF m 314 #[.val (.int p0), .val (.int p1), .val (.long q2), .second, .val (.int (4 : Int32)), .val (.long mm), .second, .val (.long ((144115188075855872 : Int64) / mm)), .second, .val (.long (((mm * mm) * mm) * mm)), .second, .val (.ref b58), .val (.long (bb).toInt64), .second, .val (.long ((((mm * mm) * mm) * mm) - (1 : Int64))), .second, .val (.long cc), .second, .val (.long ((cc / (4 : Int64)) + (0 : Int64))), .second, .val (.long (((cc / (4 : Int64)) + (0 : Int64)) * (bb).toInt64)), .second, .unset, .unset] [(.long ((((cc / (4 : Int64)) + (0 : Int64)) * (bb).toInt64) / (8 : Int64)))]))) (fun t k => XS.ifYes X62.here hx rfl (pc0 := 289) (pc' := 296) rfl (hb hby at_289) rfl ((if0 _ _).trans (teq ((lw_eq (cc - (cc / (4 : Int64)) * (4 : Int64)) (0 : Int64)).mpr c289_64)).1) (by decide) (by decide) (XT.iconstV X62.here hx rfl (0 : Int32) (hb hby at_296) (by decide) (XS.i2l X62.here hx rfl (hb hby at_297) rfl (XS.ladd X62.here hx rfl (hb hby at_298) rfl (XS.lstore X62.here hx rfl (hb hby at_299) rfl (l' := #[.val (.int p0), .val (.int p1), .val (.long q2), .second, .val (.int (4 : Int32)), .val (.long mm), .second, .val (.long ((144115188075855872 : Int64) / mm)), .second, .val (.long (((mm * mm) * mm) * mm)), .second, .val (.ref b58), .val (.long (bb).toInt64), .second, .val (.long ((((mm * mm) * mm) * mm) - (1 : Int64))), .second, .val (.long cc), .second, .val (.long ((cc / (4 : Int64)) + (0 : Int64))), .second, .unset, .unset, .unset, .unset]) rfl (XS.lload X62.here hx rfl (hb hby at_301) rfl (XS.lload X62.here hx rfl (hb hby at_303) rfl (XS.lmul X62.here hx rfl (hb hby at_305) rfl (XS.lstore X62.here hx rfl (hb hby at_306) rfl (l' := #[.val (.int p0), .val (.int p1), .val (.long q2), .second, .val (.int (4 : Int32)), .val (.long mm), .second, .val (.long ((144115188075855872 : Int64) / mm)), .second, .val (.long (((mm * mm) * mm) * mm)), .second, .val (.ref b58), .val (.long (bb).toInt64), .second, .val (.long ((((mm * mm) * mm) * mm) - (1 : Int64))), .second, .val (.long cc), .second, .val (.long ((cc / (4 : Int64)) + (0 : Int64))), .second, .val (.long (((cc / (4 : Int64)) + (0 : Int64)) * (bb).toInt64)), .second, .unset, .unset]) rfl (XS.lload X62.here hx rfl (hb hby at_308) rfl (Jvm.Stand.ldc2J X62 hx hown (mvT hZ (hw _ (List.mem_of_getElem? (i := 30) rfl))) rfl (hb hby at_310) (XS.ldiv X62.here hx rfl (hb hby at_313) rfl (by decide) k)))))))))))) ?_
            refine Wp.back (U' := (T62.setTop (mkF m 322 #[.val (.int p0), .val (.int p1), .val (.long q2), .second, .val (.int (4 : Int32)), .val (.long mm), .second, .val (.long ((144115188075855872 : Int64) / mm)), .second, .val (.long (((mm * mm) * mm) * mm)), .second, .val (.ref b58), .val (.long (bb).toInt64), .second, .val (.long ((((mm * mm) * mm) * mm) - (1 : Int64))), .second, .val (.long cc), .second, .val (.long ((cc / (4 : Int64)) + (0 : Int64))), .second, .val (.long (((cc / (4 : Int64)) + (0 : Int64)) * (bb).toInt64)), .second, .unset, .unset] [(.int (lcmpW ((((cc / (4 : Int64)) + (0 : Int64)) * (bb).toInt64) - ((((cc / (4 : Int64)) + (0 : Int64)) * (bb).toInt64) / (8 : Int64)) * (8 : Int64)) (0 : Int64))), (.long ((((cc / (4 : Int64)) + (0 : Int64)) * (bb).toInt64) / (8 : Int64)))]))) (fun t k => XS.lload X62.here hx rfl (hb hby at_314) rfl (Jvm.Stand.ldc2J X62 hx hown (mvT hZ (hw _ (List.mem_of_getElem? (i := 30) rfl))) rfl (hb hby at_316) (XS.lrem X62.here hx rfl (hb hby at_319) rfl (by decide) (XT.lconstV X62.here hx rfl (0 : Int64) (hb hby at_320) (by decide) (XS.lcmp X62.here hx rfl (hb hby at_321) rfl k))))) ?_
            by_cases c322_65 : ((((cc / (4 : Int64)) + (0 : Int64)) * (bb).toInt64) - ((((cc / (4 : Int64)) + (0 : Int64)) * (bb).toInt64) / (8 : Int64)) * (8 : Int64)) = (0 : Int64)
            · refine Wp.back (U' := (T62.setTop (mkF m 338 #[.val (.int p0), .val (.int p1), .val (.long q2), .second, .val (.int (4 : Int32)), .val (.long mm), .second, .val (.long ((144115188075855872 : Int64) / mm)), .second, .val (.long (((mm * mm) * mm) * mm)), .second, .val (.ref b58), .val (.long (bb).toInt64), .second, .val (.long ((((mm * mm) * mm) * mm) - (1 : Int64))), .second, .val (.long cc), .second, .val (.long ((cc / (4 : Int64)) + (0 : Int64))), .second, .val (.long (((cc / (4 : Int64)) + (0 : Int64)) * (bb).toInt64)), .second, .val (.long (((((cc / (4 : Int64)) + (0 : Int64)) * (bb).toInt64) / (8 : Int64)) + (0 : Int64))), .second] [(.long cc), (.ref b58)]))) (fun t k => XS.ifYes X62.here hx rfl (pc0 := 322) (pc' := 329) rfl (hb hby at_322) rfl ((if0 _ _).trans (teq ((lw_eq ((((cc / (4 : Int64)) + (0 : Int64)) * (bb).toInt64) - ((((cc / (4 : Int64)) + (0 : Int64)) * (bb).toInt64) / (8 : Int64)) * (8 : Int64)) (0 : Int64)).mpr c322_65)).1) (by decide) (by decide) (XT.iconstV X62.here hx rfl (0 : Int32) (hb hby at_329) (by decide) (XS.i2l X62.here hx rfl (hb hby at_330) rfl (XS.ladd X62.here hx rfl (hb hby at_331) rfl (XS.lstore X62.here hx rfl (hb hby at_332) rfl (l' := #[.val (.int p0), .val (.int p1), .val (.long q2), .second, .val (.int (4 : Int32)), .val (.long mm), .second, .val (.long ((144115188075855872 : Int64) / mm)), .second, .val (.long (((mm * mm) * mm) * mm)), .second, .val (.ref b58), .val (.long (bb).toInt64), .second, .val (.long ((((mm * mm) * mm) * mm) - (1 : Int64))), .second, .val (.long cc), .second, .val (.long ((cc / (4 : Int64)) + (0 : Int64))), .second, .val (.long (((cc / (4 : Int64)) + (0 : Int64)) * (bb).toInt64)), .second, .val (.long (((((cc / (4 : Int64)) + (0 : Int64)) * (bb).toInt64) / (8 : Int64)) + (0 : Int64))), .second]) rfl (XS.aload X62.here hx rfl (hb hby at_334) rfl rfl (XS.lload X62.here hx rfl (hb hby at_336) rfl k))))))) ?_
              obtain ⟨cq66, kq66, q66a, q66b, q66c⟩ := isOf hZ rfl f63_1
              obtain ⟨_, _, ⟨T66, L66, k66, n66⟩, -, X66, ⟨Lc66, hQ66, l66, y66, z66⟩, st66⟩ := X62.virtualBack hx (y := (⟨"com/example/known_leaks/knownleaks/CellPacking", "bytes", "(J)J"⟩ : MethodName)) (z := (⟨"com/example/known_leaks/knownleaks/CellPacking", "bytes", "(J)J"⟩ : MethodName)) hown (mvT hZ (hw _ (List.mem_of_getElem? (i := 31) rfl))) (mvT hZ (hw _ (List.mem_of_getElem? (i := 32) rfl))) (notFace_of_selects (args := #[]) (mvT hZ (hw _ (List.mem_of_getElem? (i := 34) rfl)))) (mvT hZ (hw _ (List.mem_of_getElem? (i := 34) rfl))) (mvT hZ (hw _ (List.mem_of_getElem? (i := 33) rfl))) (by decide) (backOf (W := 0) (rm_by4 l Z a0 hw [] b58 cc bb T62.heap n0 f63_0 f63_2 f63_3) hZ (hw _ (List.mem_of_getElem? (i := 35) rfl)) (hw _ (List.mem_of_getElem? (i := 4) rfl)) (by decide) (by decide)) q66a q66c (g := (mkF m 338 #[.val (.int p0), .val (.int p1), .val (.long q2), .second, .val (.int (4 : Int32)), .val (.long mm), .second, .val (.long ((144115188075855872 : Int64) / mm)), .second, .val (.long (((mm * mm) * mm) * mm)), .second, .val (.ref b58), .val (.long (bb).toInt64), .second, .val (.long ((((mm * mm) * mm) * mm) - (1 : Int64))), .second, .val (.long cc), .second, .val (.long ((cc / (4 : Int64)) + (0 : Int64))), .second, .val (.long (((cc / (4 : Int64)) + (0 : Int64)) * (bb).toInt64)), .second, .val (.long (((((cc / (4 : Int64)) + (0 : Int64)) * (bb).toInt64) / (8 : Int64)) + (0 : Int64))), .second] [(.long cc), (.ref b58)])) rfl (by rw [hml]; rfl) (Steps.refl _) (argsL := [(.long cc)]) (rest := []) (lenOf pd0_1 rfl) rfl (by show 2 * 0 + _ ≤ _; exact Nat.le_of_eq rfl) (hb hby at_338) (fun _ _ => ⟨rfl, rfl, (by decide : 2 + 0 ≤ _), (by decide : 8 + 0 ≤ _)⟩)
              dsimp only [Pt.U, Pt.locs, Pt.cells, Pt.slots] at X66 l66 y66 z66 st66 hQ66
              subst l66 y66 z66
              obtain ⟨rfl, N66q, K66⟩ := hQ66
              have f67_0 := Nat.le_trans f63_0 K66.1
              have f67_1 := f63_1.keep K66
              have f67_2 := f63_2.keep K66 nin0
              have f67_3 := f63_3.keep K66 nin0
              have N66 := Fr.app N62 N66q
              refine Wp.back (U' := (T66.setTop (mkF m 341 #[.val (.int p0), .val (.int p1), .val (.long q2), .second, .val (.int (4 : Int32)), .val (.long mm), .second, .val (.long ((144115188075855872 : Int64) / mm)), .second, .val (.long (((mm * mm) * mm) * mm)), .second, .val (.ref b58), .val (.long (bb).toInt64), .second, .val (.long ((((mm * mm) * mm) * mm) - (1 : Int64))), .second, .val (.long cc), .second, .val (.long ((cc / (4 : Int64)) + (0 : Int64))), .second, .val (.long (((cc / (4 : Int64)) + (0 : Int64)) * (bb).toInt64)), .second, .val (.long (((((cc / (4 : Int64)) + (0 : Int64)) * (bb).toInt64) / (8 : Int64)) + (0 : Int64))), .second] [(.long ((((((cc + (4 : Int64)) - (1 : Int64)) / (4 : Int64)) * (bb).toInt64) + (7 : Int64)) / (8 : Int64)))]))) (fun t k => st66.trans k) ?_
              refine Wp.back (U' := (T66.setTop (mkF m 352 #[.val (.int p0), .val (.int p1), .val (.long q2), .second, .val (.int (4 : Int32)), .val (.long mm), .second, .val (.long ((144115188075855872 : Int64) / mm)), .second, .val (.long (((mm * mm) * mm) * mm)), .second, .val (.ref b58), .val (.long (bb).toInt64), .second, .val (.long ((((mm * mm) * mm) * mm) - (1 : Int64))), .second, .val (.long cc), .second, .val (.long ((cc / (4 : Int64)) + (0 : Int64))), .second, .val (.long (((cc / (4 : Int64)) + (0 : Int64)) * (bb).toInt64)), .second, .val (.long (((((cc / (4 : Int64)) + (0 : Int64)) * (bb).toInt64) / (8 : Int64)) + (0 : Int64))), .second] [(.int (1 : Int32))]))) (fun t k => XS.lload X66.here hx rfl (hb hby at_341) rfl (XS.lcmp X66.here hx rfl (hb hby at_343) rfl (XS.ifNo X66.here hx rfl (hb hby at_344) rfl ((if0 _ _).trans (teq ((lw_eq ((((((cc + (4 : Int64)) - (1 : Int64)) / (4 : Int64)) * (bb).toInt64) + (7 : Int64)) / (8 : Int64)) (((((cc / (4 : Int64)) + (0 : Int64)) * (bb).toInt64) / (8 : Int64)) + (0 : Int64))).mpr (own_f4_tt hB.1 hc c289_64 c322_65))).2) (XT.iconstV X66.here hx rfl (1 : Int32) (hb hby at_347) (by decide) (XS.goto X66.here hx rfl (pc0 := 348) (pc' := 352) rfl (hb hby at_348) (by decide) (by decide) k))))) ?_
              obtain ⟨fs, hr, hrun, hended, hW, hsame⟩ := X66.leave (v := (some (.int (1 : Int32)))) (fun h => by rw [hret] at h; cases h)
              refine Wp.done (retN X66 hx (t := .boolean) hret (by simp) (hb hby at_352) hr) hrun hended ⟨_, _, rfl, ?_, ⟨_, rfl⟩, hW, hsame.mono (by decide) (by decide)⟩
              show QL n0 _ T66.heap _
              exact ⟨rfl, N66⟩
            · refine Wp.back (U' := (T62.setTop (mkF m 338 #[.val (.int p0), .val (.int p1), .val (.long q2), .second, .val (.int (4 : Int32)), .val (.long mm), .second, .val (.long ((144115188075855872 : Int64) / mm)), .second, .val (.long (((mm * mm) * mm) * mm)), .second, .val (.ref b58), .val (.long (bb).toInt64), .second, .val (.long ((((mm * mm) * mm) * mm) - (1 : Int64))), .second, .val (.long cc), .second, .val (.long ((cc / (4 : Int64)) + (0 : Int64))), .second, .val (.long (((cc / (4 : Int64)) + (0 : Int64)) * (bb).toInt64)), .second, .val (.long (((((cc / (4 : Int64)) + (0 : Int64)) * (bb).toInt64) / (8 : Int64)) + (1 : Int64))), .second] [(.long cc), (.ref b58)]))) (fun t k => XS.ifNo X62.here hx rfl (hb hby at_322) rfl ((if0 _ _).trans (feq (fun q => c322_65 ((lw_eq ((((cc / (4 : Int64)) + (0 : Int64)) * (bb).toInt64) - ((((cc / (4 : Int64)) + (0 : Int64)) * (bb).toInt64) / (8 : Int64)) * (8 : Int64)) (0 : Int64)).mp q))).1) (XT.iconstV X62.here hx rfl (1 : Int32) (hb hby at_325) (by decide) (XS.goto X62.here hx rfl (pc0 := 326) (pc' := 330) rfl (hb hby at_326) (by decide) (by decide) (XS.i2l X62.here hx rfl (hb hby at_330) rfl (XS.ladd X62.here hx rfl (hb hby at_331) rfl (XS.lstore X62.here hx rfl (hb hby at_332) rfl (l' := #[.val (.int p0), .val (.int p1), .val (.long q2), .second, .val (.int (4 : Int32)), .val (.long mm), .second, .val (.long ((144115188075855872 : Int64) / mm)), .second, .val (.long (((mm * mm) * mm) * mm)), .second, .val (.ref b58), .val (.long (bb).toInt64), .second, .val (.long ((((mm * mm) * mm) * mm) - (1 : Int64))), .second, .val (.long cc), .second, .val (.long ((cc / (4 : Int64)) + (0 : Int64))), .second, .val (.long (((cc / (4 : Int64)) + (0 : Int64)) * (bb).toInt64)), .second, .val (.long (((((cc / (4 : Int64)) + (0 : Int64)) * (bb).toInt64) / (8 : Int64)) + (1 : Int64))), .second]) rfl (XS.aload X62.here hx rfl (hb hby at_334) rfl rfl (XS.lload X62.here hx rfl (hb hby at_336) rfl k)))))))) ?_
              obtain ⟨cq68, kq68, q68a, q68b, q68c⟩ := isOf hZ rfl f63_1
              obtain ⟨_, _, ⟨T68, L68, k68, n68⟩, -, X68, ⟨Lc68, hQ68, l68, y68, z68⟩, st68⟩ := X62.virtualBack hx (y := (⟨"com/example/known_leaks/knownleaks/CellPacking", "bytes", "(J)J"⟩ : MethodName)) (z := (⟨"com/example/known_leaks/knownleaks/CellPacking", "bytes", "(J)J"⟩ : MethodName)) hown (mvT hZ (hw _ (List.mem_of_getElem? (i := 31) rfl))) (mvT hZ (hw _ (List.mem_of_getElem? (i := 32) rfl))) (notFace_of_selects (args := #[]) (mvT hZ (hw _ (List.mem_of_getElem? (i := 34) rfl)))) (mvT hZ (hw _ (List.mem_of_getElem? (i := 34) rfl))) (mvT hZ (hw _ (List.mem_of_getElem? (i := 33) rfl))) (by decide) (backOf (W := 0) (rm_by4 l Z a0 hw [] b58 cc bb T62.heap n0 f63_0 f63_2 f63_3) hZ (hw _ (List.mem_of_getElem? (i := 35) rfl)) (hw _ (List.mem_of_getElem? (i := 4) rfl)) (by decide) (by decide)) q68a q68c (g := (mkF m 338 #[.val (.int p0), .val (.int p1), .val (.long q2), .second, .val (.int (4 : Int32)), .val (.long mm), .second, .val (.long ((144115188075855872 : Int64) / mm)), .second, .val (.long (((mm * mm) * mm) * mm)), .second, .val (.ref b58), .val (.long (bb).toInt64), .second, .val (.long ((((mm * mm) * mm) * mm) - (1 : Int64))), .second, .val (.long cc), .second, .val (.long ((cc / (4 : Int64)) + (0 : Int64))), .second, .val (.long (((cc / (4 : Int64)) + (0 : Int64)) * (bb).toInt64)), .second, .val (.long (((((cc / (4 : Int64)) + (0 : Int64)) * (bb).toInt64) / (8 : Int64)) + (1 : Int64))), .second] [(.long cc), (.ref b58)])) rfl (by rw [hml]; rfl) (Steps.refl _) (argsL := [(.long cc)]) (rest := []) (lenOf pd0_1 rfl) rfl (by show 2 * 0 + _ ≤ _; exact Nat.le_of_eq rfl) (hb hby at_338) (fun _ _ => ⟨rfl, rfl, (by decide : 2 + 0 ≤ _), (by decide : 8 + 0 ≤ _)⟩)
              dsimp only [Pt.U, Pt.locs, Pt.cells, Pt.slots] at X68 l68 y68 z68 st68 hQ68
              subst l68 y68 z68
              obtain ⟨rfl, N68q, K68⟩ := hQ68
              have f69_0 := Nat.le_trans f63_0 K68.1
              have f69_1 := f63_1.keep K68
              have f69_2 := f63_2.keep K68 nin0
              have f69_3 := f63_3.keep K68 nin0
              have N68 := Fr.app N62 N68q
              refine Wp.back (U' := (T68.setTop (mkF m 341 #[.val (.int p0), .val (.int p1), .val (.long q2), .second, .val (.int (4 : Int32)), .val (.long mm), .second, .val (.long ((144115188075855872 : Int64) / mm)), .second, .val (.long (((mm * mm) * mm) * mm)), .second, .val (.ref b58), .val (.long (bb).toInt64), .second, .val (.long ((((mm * mm) * mm) * mm) - (1 : Int64))), .second, .val (.long cc), .second, .val (.long ((cc / (4 : Int64)) + (0 : Int64))), .second, .val (.long (((cc / (4 : Int64)) + (0 : Int64)) * (bb).toInt64)), .second, .val (.long (((((cc / (4 : Int64)) + (0 : Int64)) * (bb).toInt64) / (8 : Int64)) + (1 : Int64))), .second] [(.long ((((((cc + (4 : Int64)) - (1 : Int64)) / (4 : Int64)) * (bb).toInt64) + (7 : Int64)) / (8 : Int64)))]))) (fun t k => st68.trans k) ?_
              refine Wp.back (U' := (T68.setTop (mkF m 352 #[.val (.int p0), .val (.int p1), .val (.long q2), .second, .val (.int (4 : Int32)), .val (.long mm), .second, .val (.long ((144115188075855872 : Int64) / mm)), .second, .val (.long (((mm * mm) * mm) * mm)), .second, .val (.ref b58), .val (.long (bb).toInt64), .second, .val (.long ((((mm * mm) * mm) * mm) - (1 : Int64))), .second, .val (.long cc), .second, .val (.long ((cc / (4 : Int64)) + (0 : Int64))), .second, .val (.long (((cc / (4 : Int64)) + (0 : Int64)) * (bb).toInt64)), .second, .val (.long (((((cc / (4 : Int64)) + (0 : Int64)) * (bb).toInt64) / (8 : Int64)) + (1 : Int64))), .second] [(.int (1 : Int32))]))) (fun t k => XS.lload X68.here hx rfl (hb hby at_341) rfl (XS.lcmp X68.here hx rfl (hb hby at_343) rfl (XS.ifNo X68.here hx rfl (hb hby at_344) rfl ((if0 _ _).trans (teq ((lw_eq ((((((cc + (4 : Int64)) - (1 : Int64)) / (4 : Int64)) * (bb).toInt64) + (7 : Int64)) / (8 : Int64)) (((((cc / (4 : Int64)) + (0 : Int64)) * (bb).toInt64) / (8 : Int64)) + (1 : Int64))).mpr (own_f4_tf hB.1 hc c289_64 c322_65))).2) (XT.iconstV X68.here hx rfl (1 : Int32) (hb hby at_347) (by decide) (XS.goto X68.here hx rfl (pc0 := 348) (pc' := 352) rfl (hb hby at_348) (by decide) (by decide) k))))) ?_
              obtain ⟨fs, hr, hrun, hended, hW, hsame⟩ := X68.leave (v := (some (.int (1 : Int32)))) (fun h => by rw [hret] at h; cases h)
              refine Wp.done (retN X68 hx (t := .boolean) hret (by simp) (hb hby at_352) hr) hrun hended ⟨_, _, rfl, ?_, ⟨_, rfl⟩, hW, hsame.mono (by decide) (by decide)⟩
              show QL n0 _ T68.heap _
              exact ⟨rfl, N68⟩
          · refine Wp.back (U' := (T62.setTop (mkF m 313 #[.val (.int p0), .val (.int p1), .val (.long q2), .second, .val (.int (4 : Int32)), .val (.long mm), .second, .val (.long ((144115188075855872 : Int64) / mm)), .second, .val (.long (((mm * mm) * mm) * mm)), .second, .val (.ref b58), .val (.long (bb).toInt64), .second, .val (.long ((((mm * mm) * mm) * mm) - (1 : Int64))), .second, .val (.long cc), .second, .val (.long ((cc / (4 : Int64)) + (1 : Int64))), .second, .val (.long (((cc / (4 : Int64)) + (1 : Int64)) * (bb).toInt64)), .second, .unset, .unset] [(.long (8 : Int64)), (.long (((cc / (4 : Int64)) + (1 : Int64)) * (bb).toInt64))]))) (fun t k => XS.ifNo X62.here hx rfl (hb hby at_289) rfl ((if0 _ _).trans (feq (fun q => c289_64 ((lw_eq (cc - (cc / (4 : Int64)) * (4 : Int64)) (0 : Int64)).mp q))).1) (XT.iconstV X62.here hx rfl (1 : Int32) (hb hby at_292) (by decide) (XS.goto X62.here hx rfl (pc0 := 293) (pc' := 297) rfl (hb hby at_293) (by decide) (by decide) (XS.i2l X62.here hx rfl (hb hby at_297) rfl (XS.ladd X62.here hx rfl (hb hby at_298) rfl (XS.lstore X62.here hx rfl (hb hby at_299) rfl (l' := #[.val (.int p0), .val (.int p1), .val (.long q2), .second, .val (.int (4 : Int32)), .val (.long mm), .second, .val (.long ((144115188075855872 : Int64) / mm)), .second, .val (.long (((mm * mm) * mm) * mm)), .second, .val (.ref b58), .val (.long (bb).toInt64), .second, .val (.long ((((mm * mm) * mm) * mm) - (1 : Int64))), .second, .val (.long cc), .second, .val (.long ((cc / (4 : Int64)) + (1 : Int64))), .second, .unset, .unset, .unset, .unset]) rfl (XS.lload X62.here hx rfl (hb hby at_301) rfl (XS.lload X62.here hx rfl (hb hby at_303) rfl (XS.lmul X62.here hx rfl (hb hby at_305) rfl (XS.lstore X62.here hx rfl (hb hby at_306) rfl (l' := #[.val (.int p0), .val (.int p1), .val (.long q2), .second, .val (.int (4 : Int32)), .val (.long mm), .second, .val (.long ((144115188075855872 : Int64) / mm)), .second, .val (.long (((mm * mm) * mm) * mm)), .second, .val (.ref b58), .val (.long (bb).toInt64), .second, .val (.long ((((mm * mm) * mm) * mm) - (1 : Int64))), .second, .val (.long cc), .second, .val (.long ((cc / (4 : Int64)) + (1 : Int64))), .second, .val (.long (((cc / (4 : Int64)) + (1 : Int64)) * (bb).toInt64)), .second, .unset, .unset]) rfl (XS.lload X62.here hx rfl (hb hby at_308) rfl (Jvm.Stand.ldc2J X62 hx hown (mvT hZ (hw _ (List.mem_of_getElem? (i := 30) rfl))) rfl (hb hby at_310) k)))))))))))) ?_
            refine Wp.back (U' := (T62.setTop (mkF m 322 #[.val (.int p0), .val (.int p1), .val (.long q2), .second, .val (.int (4 : Int32)), .val (.long mm), .second, .val (.long ((144115188075855872 : Int64) / mm)), .second, .val (.long (((mm * mm) * mm) * mm)), .second, .val (.ref b58), .val (.long (bb).toInt64), .second, .val (.long ((((mm * mm) * mm) * mm) - (1 : Int64))), .second, .val (.long cc), .second, .val (.long ((cc / (4 : Int64)) + (1 : Int64))), .second, .val (.long (((cc / (4 : Int64)) + (1 : Int64)) * (bb).toInt64)), .second, .unset, .unset] [(.int (lcmpW ((((cc / (4 : Int64)) + (1 : Int64)) * (bb).toInt64) - ((((cc / (4 : Int64)) + (1 : Int64)) * (bb).toInt64) / (8 : Int64)) * (8 : Int64)) (0 : Int64))), (.long ((((cc / (4 : Int64)) + (1 : Int64)) * (bb).toInt64) / (8 : Int64)))]))) (fun t k => XS.ldiv X62.here hx rfl (hb hby at_313) rfl (by decide) (XS.lload X62.here hx rfl (hb hby at_314) rfl (Jvm.Stand.ldc2J X62 hx hown (mvT hZ (hw _ (List.mem_of_getElem? (i := 30) rfl))) rfl (hb hby at_316) (XS.lrem X62.here hx rfl (hb hby at_319) rfl (by decide) (XT.lconstV X62.here hx rfl (0 : Int64) (hb hby at_320) (by decide) (XS.lcmp X62.here hx rfl (hb hby at_321) rfl k)))))) ?_
            by_cases c322_70 : ((((cc / (4 : Int64)) + (1 : Int64)) * (bb).toInt64) - ((((cc / (4 : Int64)) + (1 : Int64)) * (bb).toInt64) / (8 : Int64)) * (8 : Int64)) = (0 : Int64)
            · refine Wp.back (U' := (T62.setTop (mkF m 338 #[.val (.int p0), .val (.int p1), .val (.long q2), .second, .val (.int (4 : Int32)), .val (.long mm), .second, .val (.long ((144115188075855872 : Int64) / mm)), .second, .val (.long (((mm * mm) * mm) * mm)), .second, .val (.ref b58), .val (.long (bb).toInt64), .second, .val (.long ((((mm * mm) * mm) * mm) - (1 : Int64))), .second, .val (.long cc), .second, .val (.long ((cc / (4 : Int64)) + (1 : Int64))), .second, .val (.long (((cc / (4 : Int64)) + (1 : Int64)) * (bb).toInt64)), .second, .val (.long (((((cc / (4 : Int64)) + (1 : Int64)) * (bb).toInt64) / (8 : Int64)) + (0 : Int64))), .second] [(.long cc), (.ref b58)]))) (fun t k => XS.ifYes X62.here hx rfl (pc0 := 322) (pc' := 329) rfl (hb hby at_322) rfl ((if0 _ _).trans (teq ((lw_eq ((((cc / (4 : Int64)) + (1 : Int64)) * (bb).toInt64) - ((((cc / (4 : Int64)) + (1 : Int64)) * (bb).toInt64) / (8 : Int64)) * (8 : Int64)) (0 : Int64)).mpr c322_70)).1) (by decide) (by decide) (XT.iconstV X62.here hx rfl (0 : Int32) (hb hby at_329) (by decide) (XS.i2l X62.here hx rfl (hb hby at_330) rfl (XS.ladd X62.here hx rfl (hb hby at_331) rfl (XS.lstore X62.here hx rfl (hb hby at_332) rfl (l' := #[.val (.int p0), .val (.int p1), .val (.long q2), .second, .val (.int (4 : Int32)), .val (.long mm), .second, .val (.long ((144115188075855872 : Int64) / mm)), .second, .val (.long (((mm * mm) * mm) * mm)), .second, .val (.ref b58), .val (.long (bb).toInt64), .second, .val (.long ((((mm * mm) * mm) * mm) - (1 : Int64))), .second, .val (.long cc), .second, .val (.long ((cc / (4 : Int64)) + (1 : Int64))), .second, .val (.long (((cc / (4 : Int64)) + (1 : Int64)) * (bb).toInt64)), .second, .val (.long (((((cc / (4 : Int64)) + (1 : Int64)) * (bb).toInt64) / (8 : Int64)) + (0 : Int64))), .second]) rfl (XS.aload X62.here hx rfl (hb hby at_334) rfl rfl (XS.lload X62.here hx rfl (hb hby at_336) rfl k))))))) ?_
              obtain ⟨cq71, kq71, q71a, q71b, q71c⟩ := isOf hZ rfl f63_1
              obtain ⟨_, _, ⟨T71, L71, k71, n71⟩, -, X71, ⟨Lc71, hQ71, l71, y71, z71⟩, st71⟩ := X62.virtualBack hx (y := (⟨"com/example/known_leaks/knownleaks/CellPacking", "bytes", "(J)J"⟩ : MethodName)) (z := (⟨"com/example/known_leaks/knownleaks/CellPacking", "bytes", "(J)J"⟩ : MethodName)) hown (mvT hZ (hw _ (List.mem_of_getElem? (i := 31) rfl))) (mvT hZ (hw _ (List.mem_of_getElem? (i := 32) rfl))) (notFace_of_selects (args := #[]) (mvT hZ (hw _ (List.mem_of_getElem? (i := 34) rfl)))) (mvT hZ (hw _ (List.mem_of_getElem? (i := 34) rfl))) (mvT hZ (hw _ (List.mem_of_getElem? (i := 33) rfl))) (by decide) (backOf (W := 0) (rm_by4 l Z a0 hw [] b58 cc bb T62.heap n0 f63_0 f63_2 f63_3) hZ (hw _ (List.mem_of_getElem? (i := 35) rfl)) (hw _ (List.mem_of_getElem? (i := 4) rfl)) (by decide) (by decide)) q71a q71c (g := (mkF m 338 #[.val (.int p0), .val (.int p1), .val (.long q2), .second, .val (.int (4 : Int32)), .val (.long mm), .second, .val (.long ((144115188075855872 : Int64) / mm)), .second, .val (.long (((mm * mm) * mm) * mm)), .second, .val (.ref b58), .val (.long (bb).toInt64), .second, .val (.long ((((mm * mm) * mm) * mm) - (1 : Int64))), .second, .val (.long cc), .second, .val (.long ((cc / (4 : Int64)) + (1 : Int64))), .second, .val (.long (((cc / (4 : Int64)) + (1 : Int64)) * (bb).toInt64)), .second, .val (.long (((((cc / (4 : Int64)) + (1 : Int64)) * (bb).toInt64) / (8 : Int64)) + (0 : Int64))), .second] [(.long cc), (.ref b58)])) rfl (by rw [hml]; rfl) (Steps.refl _) (argsL := [(.long cc)]) (rest := []) (lenOf pd0_1 rfl) rfl (by show 2 * 0 + _ ≤ _; exact Nat.le_of_eq rfl) (hb hby at_338) (fun _ _ => ⟨rfl, rfl, (by decide : 2 + 0 ≤ _), (by decide : 8 + 0 ≤ _)⟩)
              dsimp only [Pt.U, Pt.locs, Pt.cells, Pt.slots] at X71 l71 y71 z71 st71 hQ71
              subst l71 y71 z71
              obtain ⟨rfl, N71q, K71⟩ := hQ71
              have f72_0 := Nat.le_trans f63_0 K71.1
              have f72_1 := f63_1.keep K71
              have f72_2 := f63_2.keep K71 nin0
              have f72_3 := f63_3.keep K71 nin0
              have N71 := Fr.app N62 N71q
              refine Wp.back (U' := (T71.setTop (mkF m 341 #[.val (.int p0), .val (.int p1), .val (.long q2), .second, .val (.int (4 : Int32)), .val (.long mm), .second, .val (.long ((144115188075855872 : Int64) / mm)), .second, .val (.long (((mm * mm) * mm) * mm)), .second, .val (.ref b58), .val (.long (bb).toInt64), .second, .val (.long ((((mm * mm) * mm) * mm) - (1 : Int64))), .second, .val (.long cc), .second, .val (.long ((cc / (4 : Int64)) + (1 : Int64))), .second, .val (.long (((cc / (4 : Int64)) + (1 : Int64)) * (bb).toInt64)), .second, .val (.long (((((cc / (4 : Int64)) + (1 : Int64)) * (bb).toInt64) / (8 : Int64)) + (0 : Int64))), .second] [(.long ((((((cc + (4 : Int64)) - (1 : Int64)) / (4 : Int64)) * (bb).toInt64) + (7 : Int64)) / (8 : Int64)))]))) (fun t k => st71.trans k) ?_
              refine Wp.back (U' := (T71.setTop (mkF m 352 #[.val (.int p0), .val (.int p1), .val (.long q2), .second, .val (.int (4 : Int32)), .val (.long mm), .second, .val (.long ((144115188075855872 : Int64) / mm)), .second, .val (.long (((mm * mm) * mm) * mm)), .second, .val (.ref b58), .val (.long (bb).toInt64), .second, .val (.long ((((mm * mm) * mm) * mm) - (1 : Int64))), .second, .val (.long cc), .second, .val (.long ((cc / (4 : Int64)) + (1 : Int64))), .second, .val (.long (((cc / (4 : Int64)) + (1 : Int64)) * (bb).toInt64)), .second, .val (.long (((((cc / (4 : Int64)) + (1 : Int64)) * (bb).toInt64) / (8 : Int64)) + (0 : Int64))), .second] [(.int (1 : Int32))]))) (fun t k => XS.lload X71.here hx rfl (hb hby at_341) rfl (XS.lcmp X71.here hx rfl (hb hby at_343) rfl (XS.ifNo X71.here hx rfl (hb hby at_344) rfl ((if0 _ _).trans (teq ((lw_eq ((((((cc + (4 : Int64)) - (1 : Int64)) / (4 : Int64)) * (bb).toInt64) + (7 : Int64)) / (8 : Int64)) (((((cc / (4 : Int64)) + (1 : Int64)) * (bb).toInt64) / (8 : Int64)) + (0 : Int64))).mpr (own_f4_ft hB.1 hc c289_64 c322_70))).2) (XT.iconstV X71.here hx rfl (1 : Int32) (hb hby at_347) (by decide) (XS.goto X71.here hx rfl (pc0 := 348) (pc' := 352) rfl (hb hby at_348) (by decide) (by decide) k))))) ?_
              obtain ⟨fs, hr, hrun, hended, hW, hsame⟩ := X71.leave (v := (some (.int (1 : Int32)))) (fun h => by rw [hret] at h; cases h)
              refine Wp.done (retN X71 hx (t := .boolean) hret (by simp) (hb hby at_352) hr) hrun hended ⟨_, _, rfl, ?_, ⟨_, rfl⟩, hW, hsame.mono (by decide) (by decide)⟩
              show QL n0 _ T71.heap _
              exact ⟨rfl, N71⟩
            · refine Wp.back (U' := (T62.setTop (mkF m 338 #[.val (.int p0), .val (.int p1), .val (.long q2), .second, .val (.int (4 : Int32)), .val (.long mm), .second, .val (.long ((144115188075855872 : Int64) / mm)), .second, .val (.long (((mm * mm) * mm) * mm)), .second, .val (.ref b58), .val (.long (bb).toInt64), .second, .val (.long ((((mm * mm) * mm) * mm) - (1 : Int64))), .second, .val (.long cc), .second, .val (.long ((cc / (4 : Int64)) + (1 : Int64))), .second, .val (.long (((cc / (4 : Int64)) + (1 : Int64)) * (bb).toInt64)), .second, .val (.long (((((cc / (4 : Int64)) + (1 : Int64)) * (bb).toInt64) / (8 : Int64)) + (1 : Int64))), .second] [(.long cc), (.ref b58)]))) (fun t k => XS.ifNo X62.here hx rfl (hb hby at_322) rfl ((if0 _ _).trans (feq (fun q => c322_70 ((lw_eq ((((cc / (4 : Int64)) + (1 : Int64)) * (bb).toInt64) - ((((cc / (4 : Int64)) + (1 : Int64)) * (bb).toInt64) / (8 : Int64)) * (8 : Int64)) (0 : Int64)).mp q))).1) (XT.iconstV X62.here hx rfl (1 : Int32) (hb hby at_325) (by decide) (XS.goto X62.here hx rfl (pc0 := 326) (pc' := 330) rfl (hb hby at_326) (by decide) (by decide) (XS.i2l X62.here hx rfl (hb hby at_330) rfl (XS.ladd X62.here hx rfl (hb hby at_331) rfl (XS.lstore X62.here hx rfl (hb hby at_332) rfl (l' := #[.val (.int p0), .val (.int p1), .val (.long q2), .second, .val (.int (4 : Int32)), .val (.long mm), .second, .val (.long ((144115188075855872 : Int64) / mm)), .second, .val (.long (((mm * mm) * mm) * mm)), .second, .val (.ref b58), .val (.long (bb).toInt64), .second, .val (.long ((((mm * mm) * mm) * mm) - (1 : Int64))), .second, .val (.long cc), .second, .val (.long ((cc / (4 : Int64)) + (1 : Int64))), .second, .val (.long (((cc / (4 : Int64)) + (1 : Int64)) * (bb).toInt64)), .second, .val (.long (((((cc / (4 : Int64)) + (1 : Int64)) * (bb).toInt64) / (8 : Int64)) + (1 : Int64))), .second]) rfl (XS.aload X62.here hx rfl (hb hby at_334) rfl rfl (XS.lload X62.here hx rfl (hb hby at_336) rfl k)))))))) ?_
              obtain ⟨cq73, kq73, q73a, q73b, q73c⟩ := isOf hZ rfl f63_1
              obtain ⟨_, _, ⟨T73, L73, k73, n73⟩, -, X73, ⟨Lc73, hQ73, l73, y73, z73⟩, st73⟩ := X62.virtualBack hx (y := (⟨"com/example/known_leaks/knownleaks/CellPacking", "bytes", "(J)J"⟩ : MethodName)) (z := (⟨"com/example/known_leaks/knownleaks/CellPacking", "bytes", "(J)J"⟩ : MethodName)) hown (mvT hZ (hw _ (List.mem_of_getElem? (i := 31) rfl))) (mvT hZ (hw _ (List.mem_of_getElem? (i := 32) rfl))) (notFace_of_selects (args := #[]) (mvT hZ (hw _ (List.mem_of_getElem? (i := 34) rfl)))) (mvT hZ (hw _ (List.mem_of_getElem? (i := 34) rfl))) (mvT hZ (hw _ (List.mem_of_getElem? (i := 33) rfl))) (by decide) (backOf (W := 0) (rm_by4 l Z a0 hw [] b58 cc bb T62.heap n0 f63_0 f63_2 f63_3) hZ (hw _ (List.mem_of_getElem? (i := 35) rfl)) (hw _ (List.mem_of_getElem? (i := 4) rfl)) (by decide) (by decide)) q73a q73c (g := (mkF m 338 #[.val (.int p0), .val (.int p1), .val (.long q2), .second, .val (.int (4 : Int32)), .val (.long mm), .second, .val (.long ((144115188075855872 : Int64) / mm)), .second, .val (.long (((mm * mm) * mm) * mm)), .second, .val (.ref b58), .val (.long (bb).toInt64), .second, .val (.long ((((mm * mm) * mm) * mm) - (1 : Int64))), .second, .val (.long cc), .second, .val (.long ((cc / (4 : Int64)) + (1 : Int64))), .second, .val (.long (((cc / (4 : Int64)) + (1 : Int64)) * (bb).toInt64)), .second, .val (.long (((((cc / (4 : Int64)) + (1 : Int64)) * (bb).toInt64) / (8 : Int64)) + (1 : Int64))), .second] [(.long cc), (.ref b58)])) rfl (by rw [hml]; rfl) (Steps.refl _) (argsL := [(.long cc)]) (rest := []) (lenOf pd0_1 rfl) rfl (by show 2 * 0 + _ ≤ _; exact Nat.le_of_eq rfl) (hb hby at_338) (fun _ _ => ⟨rfl, rfl, (by decide : 2 + 0 ≤ _), (by decide : 8 + 0 ≤ _)⟩)
              dsimp only [Pt.U, Pt.locs, Pt.cells, Pt.slots] at X73 l73 y73 z73 st73 hQ73
              subst l73 y73 z73
              obtain ⟨rfl, N73q, K73⟩ := hQ73
              have f74_0 := Nat.le_trans f63_0 K73.1
              have f74_1 := f63_1.keep K73
              have f74_2 := f63_2.keep K73 nin0
              have f74_3 := f63_3.keep K73 nin0
              have N73 := Fr.app N62 N73q
              refine Wp.back (U' := (T73.setTop (mkF m 341 #[.val (.int p0), .val (.int p1), .val (.long q2), .second, .val (.int (4 : Int32)), .val (.long mm), .second, .val (.long ((144115188075855872 : Int64) / mm)), .second, .val (.long (((mm * mm) * mm) * mm)), .second, .val (.ref b58), .val (.long (bb).toInt64), .second, .val (.long ((((mm * mm) * mm) * mm) - (1 : Int64))), .second, .val (.long cc), .second, .val (.long ((cc / (4 : Int64)) + (1 : Int64))), .second, .val (.long (((cc / (4 : Int64)) + (1 : Int64)) * (bb).toInt64)), .second, .val (.long (((((cc / (4 : Int64)) + (1 : Int64)) * (bb).toInt64) / (8 : Int64)) + (1 : Int64))), .second] [(.long ((((((cc + (4 : Int64)) - (1 : Int64)) / (4 : Int64)) * (bb).toInt64) + (7 : Int64)) / (8 : Int64)))]))) (fun t k => st73.trans k) ?_
              refine Wp.back (U' := (T73.setTop (mkF m 352 #[.val (.int p0), .val (.int p1), .val (.long q2), .second, .val (.int (4 : Int32)), .val (.long mm), .second, .val (.long ((144115188075855872 : Int64) / mm)), .second, .val (.long (((mm * mm) * mm) * mm)), .second, .val (.ref b58), .val (.long (bb).toInt64), .second, .val (.long ((((mm * mm) * mm) * mm) - (1 : Int64))), .second, .val (.long cc), .second, .val (.long ((cc / (4 : Int64)) + (1 : Int64))), .second, .val (.long (((cc / (4 : Int64)) + (1 : Int64)) * (bb).toInt64)), .second, .val (.long (((((cc / (4 : Int64)) + (1 : Int64)) * (bb).toInt64) / (8 : Int64)) + (1 : Int64))), .second] [(.int (1 : Int32))]))) (fun t k => XS.lload X73.here hx rfl (hb hby at_341) rfl (XS.lcmp X73.here hx rfl (hb hby at_343) rfl (XS.ifNo X73.here hx rfl (hb hby at_344) rfl ((if0 _ _).trans (teq ((lw_eq ((((((cc + (4 : Int64)) - (1 : Int64)) / (4 : Int64)) * (bb).toInt64) + (7 : Int64)) / (8 : Int64)) (((((cc / (4 : Int64)) + (1 : Int64)) * (bb).toInt64) / (8 : Int64)) + (1 : Int64))).mpr (own_f4_ff hB.1 hc c289_64 c322_70))).2) (XT.iconstV X73.here hx rfl (1 : Int32) (hb hby at_347) (by decide) (XS.goto X73.here hx rfl (pc0 := 348) (pc' := 352) rfl (hb hby at_348) (by decide) (by decide) k))))) ?_
              obtain ⟨fs, hr, hrun, hended, hW, hsame⟩ := X73.leave (v := (some (.int (1 : Int32)))) (fun h => by rw [hret] at h; cases h)
              refine Wp.done (retN X73 hx (t := .boolean) hret (by simp) (hb hby at_352) hr) hrun hended ⟨_, _, rfl, ?_, ⟨_, rfl⟩, hW, hsame.mono (by decide) (by decide)⟩
              show QL n0 _ T73.heap _
              exact ⟨rfl, N73⟩
set_option maxRecDepth 65536 in
set_option maxHeartbeats 40000000 in
theorem comes_1 {Post : Tables → Env → Array Value → State → Outcome → State → Prop} (hpost : ∀ tb e args s v u, (limb_1_1.after args s (.returned v) u = true ∧ limb_1_2.after args s (.returned v) u = true ∧ True) → FrameEnd s (.returned v) u (Jvm.fieldLocs frame_1_writes args s ++ Jvm.arrayLocs frame_1_arrays args s ++ Jvm.staticLocs frame_1_statics s) 16 128 → Post tb e args s (.returned v) u) :
    ArmFor flags0 classFile x code maxLocals ret World_1 tables_1 room_1 Calls_1 rest_1 Pre_1 Post := by
  intro l hfl _ _ p e ha hc hk s m args below hf hA hF happ hP
  obtain ⟨hcalls, hrest, hpre⟩ := hP
  obtain ⟨-, -, -, hnamed, -, -, -, hat⟩ := (Spec.applies_iff hf).mp happ
  obtain ⟨hg, hn⟩ := and_e (Cond.before_iff.mp (show (Jvm.Cond.and given_1 narrow_1).before args s = true from hpre))
  obtain ⟨hg1, hg2⟩ := and_e hg
  obtain ⟨hg21, hg22⟩ := and_e hg2
  obtain ⟨hg221, hg222⟩ := and_e hg22
  obtain ⟨w0, w1, w2, rfl⟩ : ∃ w0 w1 w2 : Value, args = #[w0, w1, w2] := by
    have hs : args.size = 3 := by simpa [Cond.value, given_1] using hg1
    obtain ⟨L⟩ := args
    match L, hs with
    | [w0, w1, w2], _ => exact ⟨w0, w1, w2, rfl⟩
  have hw := fun d (hd : d ∈ tables_1) => atoms_spec (ws := Jvm.Cond.code x code maxLocals ret :: tables_1) hat d (List.mem_cons_of_mem _ hd)
  have hfit : Fit s := fun {y c} hc i hi => by
    obtain ⟨ha, rfl⟩ := Array.getElem?_eq_some_iff.mp hc
    have q := List.all_eq_true.mp ((Array.all_eq_true_iff_forall_mem.mp hF) _ (Array.getElem_mem ha)) i (List.mem_range.mpr hi)
    simpa [Array.getElem?_eq_getElem hi] using q
  obtain ⟨i0, ei0⟩ := is_v hg21
  obtain rfl : w0 = (.int i0) := Option.some.inj ei0
  obtain ⟨i1, ei1⟩ := is_v hg221
  obtain rfl : w1 = (.int i1) := Option.some.inj ei1
  obtain ⟨i2, ei2⟩ := isL_v hg222
  obtain rfl : w2 = (.long i2) := Option.some.inj ei2
  obtain ⟨n, o, h1, h2, h3, _, L, rfl, ⟨rfl, N⟩, hq⟩ := rm_law l s _ hw tables_1 i0 i1 i2 s.heap s.heap.size (Nat.le_refl _)  p e ha hc hk s m _ below hf ((Spec.applies_iff_loose hf).mp happ).1 ⟨rfl, State.Warmed39.refl s, rfl⟩ trivial
  refine ⟨n, _, h1, h2, h3, hpost _ _ _ _ _ _ ⟨Cond.after_iff.mpr rfl, Cond.after_iff.mpr (eq_i res_at (Term.int_eval (1)) rfl), trivial⟩ ⟨hq.1, hq.2.1, (hq.2.2.sift fun y hy => Or.inr (N y hy)).mono (by decide) (by decide)⟩⟩
theorem main_1_1 : Claimed_1_1 := comes_1 fun _ _ _ _ _ _ h hF => ⟨h.1, hF⟩
theorem main_1_2 : Claimed_1_2 := comes_1 fun _ _ _ _ _ _ h hF => ⟨h.2.1, hF⟩
end Jvm.Pilot.@@N@@
namespace Jvm.Pilot.@@N@@
open Jvm Jvm.ClassFile Sem Op Lib Jvm.Free Jvm.Stand Jvm.Pilot.@@N@@.Jvm.D
/-! MADE BY PROGRAM (witnessworld.py) out of the Statement's table words and the real class files: 17 classes; the members and pool entries that the words name. The judged class is class 1, her method 1. -/
namespace start1
open Jvm.ClassFile
def u (s : String) : CpInfo := .utf8 (stringToUtf16 s)
/-- a pool by its gaps: so many unusable entries, then the entry; so many at the end -/
def gap : Nat → List CpInfo → List CpInfo
  | 0, r => r
  | n + 1, r => .unusable :: gap n r
def poolList (es : List (Nat × CpInfo)) (last : Nat) : List CpInfo := es.foldr (fun e r => gap e.1 (e.2 :: r)) (gap last [])
def pool (es : List (Nat × CpInfo)) (last : Nat) : Array CpInfo := ⟨poolList es last⟩
def fileOf (pool : Array CpInfo) (this : Nat) (attrs : Array Attribute := #[]) (ms : Array MethodInfo := #[]) (fl : Nat := 33) (sup : Nat := 0) (ifs : Array Nat := #[]) (fds : Array FieldInfo := #[]) : ClassFile where
  minorVersion := 0
  majorVersion := 65
  constantPool := pool
  accessFlags := fl
  thisClass := this
  superClass := sup
  interfaces := ifs
  fields := fds
  methods := ms
  attributes := attrs
def plain (name : String) (sup : Option ClassId) : Class where
  name := name
  kind := .ordinary
  loader := none
  accessFlags := 33
  super := sup
  interfaces := #[]
  cf := none
  fields := #[]
  methods := #[]
  instanceTypes := #[]
  staticTypes := #[]
  resolved := #[]
  callSites := []
  init := .initialized
  statics := none
  mirror := none

def pool0 : Array CpInfo := pool [(5, u "<init>"), (0, u "()V"), (1, .class_ 10), (1, u "java/lang/Object")] 113

def k0c0 : Code := { maxStack := 0, maxLocals := 1, code := object_method_1_code, exceptionTable := #[], attributes := #[] }
def k0m0 : Method := { name := "<init>", desc := "()V", sig := { parameters := [], returnType := none }, accessFlags := 1, code := some k0c0 }
/-- java/lang/Object -/
def k0 : Class := { plain "java/lang/Object" none with
  accessFlags := 33
  interfaces := #[]
  cf := some (fileOf pool0 8 #[] #[{ accessFlags := 1, nameIndex := 5, descriptorIndex := 6, attributes := #[] }] 33 0 #[] #[])
  fields := #[]
  methods := #[k0m0]
  instanceTypes := #[]
  staticTypes := #[]
  resolved := Array.replicate 124 none
  statics := none }

def pool1 : Array CpInfo := pool [(2, .class_ 4), (1, u "java/lang/Object"), (0, u "<init>"), (0, u "()V"), (0, .long 2), (1, .integer 2147483647), (0, .integer 2147483646), (0, .integer 268435455), (0, .integer 524287), (0, .long 144115188075855872), (1, .class_ 16), (0, u "com/example/known_leaks/knownleaks/CellPacking"), (0, .methodref 15 18), (0, .nameAndType 5 19), (0, u "(II)V"), (0, .long 8), (1, .methodref 15 23), (0, .nameAndType 24 25), (0, u "bytes"), (0, u "(J)J"), (0, .long 57), (1, .long 72057594037927935), (1, .class_ 31), (0, u "com/example/known_leaks/knownleaks/CellPackingBytesPinLaw"), (2, u "law"), (0, u "(IIJ)Z")] 3

def k1m0 : Method := { name := "<init>", desc := "()V", sig := { parameters := [], returnType := none }, accessFlags := 1, code := none }
def k1c1 : Code := { maxStack := 8, maxLocals := 24, code := code, exceptionTable := #[], attributes := #[] }
def k1m1 : Method := { name := "law", desc := "(IIJ)Z", sig := { parameters := [.int, .int, .long], returnType := some .boolean }, accessFlags := 9, code := some k1c1 }
/-- com/example/known_leaks/knownleaks/CellPackingBytesPinLaw -/
def k1 : Class := { plain "com/example/known_leaks/knownleaks/CellPackingBytesPinLaw" (some 0) with
  accessFlags := 49
  interfaces := #[]
  cf := some (fileOf pool1 30 #[] #[{ accessFlags := 1, nameIndex := 5, descriptorIndex := 6, attributes := #[] }, { accessFlags := 9, nameIndex := 34, descriptorIndex := 35, attributes := #[] }] 49 2 #[] #[])
  fields := #[]
  methods := #[k1m0, k1m1]
  instanceTypes := #[]
  staticTypes := #[]
  resolved := Array.replicate 39 none
  statics := none }

def pool2 : Array CpInfo := pool [(1, .methodref 2 3), (0, .class_ 4), (0, .nameAndType 5 6), (0, u "java/lang/Object"), (0, u "<init>"), (0, u "()V"), (9, .class_ 17), (0, u "com/example/known_leaks/knownleaks/CellPacking"), (4, .fieldref 16 23), (0, .nameAndType 24 25), (0, u "powers"), (0, u "[J"), (0, .long 144115188075855872), (1, .fieldref 16 29), (0, .nameAndType 30 31), (0, u "modulus"), (0, u "I"), (0, .fieldref 16 33), (0, .nameAndType 34 31), (0, u "cellsPerBlock"), (0, .methodref 36 37), (0, .class_ 38), (0, .nameAndType 39 40), (0, u "java/lang/Long"), (0, u "numberOfLeadingZeros"), (0, u "(J)I"), (0, .fieldref 16 42), (0, .nameAndType 43 31), (0, u "blockBits"), (3, u "(II)V"), (0, .long 7), (1, .long 8), (15, u "MAX_BLOCK_BITS"), (8, u "bytes"), (0, u "(J)J")] 27

def k2c0 : Code := { maxStack := 6, maxLocals := 6, code := prog_4_method_1_code, exceptionTable := #[], attributes := #[] }
def k2m0 : Method := { name := "<init>", desc := "(II)V", sig := { parameters := [.int, .int], returnType := none }, accessFlags := 0, code := some k2c0 }
def k2c1 : Code := { maxStack := 4, maxLocals := 5, code := prog_4_method_6_code, exceptionTable := #[], attributes := #[] }
def k2m1 : Method := { name := "bytes", desc := "(J)J", sig := { parameters := [.long], returnType := some .long }, accessFlags := 0, code := some k2c1 }
/-- com/example/known_leaks/knownleaks/CellPacking -/
def k2 : Class := { plain "com/example/known_leaks/knownleaks/CellPacking" (some 0) with
  accessFlags := 32
  interfaces := #[]
  cf := some (fileOf pool2 16 #[] #[{ accessFlags := 0, nameIndex := 5, descriptorIndex := 47, attributes := #[] }, { accessFlags := 0, nameIndex := 75, descriptorIndex := 76, attributes := #[] }] 32 2 #[] #[{ accessFlags := 24, nameIndex := 66, descriptorIndex := 31, attributes := #[] }, { accessFlags := 18, nameIndex := 30, descriptorIndex := 31, attributes := #[] }, { accessFlags := 18, nameIndex := 34, descriptorIndex := 31, attributes := #[] }, { accessFlags := 18, nameIndex := 43, descriptorIndex := 31, attributes := #[] }, { accessFlags := 18, nameIndex := 24, descriptorIndex := 25, attributes := #[] }])
  fields := #[{ name := "MAX_BLOCK_BITS", type := .int, accessFlags := 24, slot := 0, constantValue := 0 }, { name := "modulus", type := .int, accessFlags := 18, slot := 0, constantValue := 0 }, { name := "cellsPerBlock", type := .int, accessFlags := 18, slot := 1, constantValue := 0 }, { name := "blockBits", type := .int, accessFlags := 18, slot := 2, constantValue := 0 }, { name := "powers", type := (.array .long), accessFlags := 18, slot := 3, constantValue := 0 }]
  methods := #[k2m0, k2m1]
  instanceTypes := #[.int, .int, .int, (.array .long)]
  staticTypes := #[.int]
  resolved := Array.replicate 104 none
  statics := none }

def pool3 : Array CpInfo := pool [(1, .class_ 2), (0, u "java/io/Serializable"), (0, .class_ 4), (0, u "java/lang/Object")] 2

/-- java/io/Serializable -/
def k3 : Class := { plain "java/io/Serializable" (some 0) with
  accessFlags := 1537
  interfaces := #[]
  cf := some (fileOf pool3 1 #[] #[] 1537 3 #[] #[])
  fields := #[]
  methods := #[]
  instanceTypes := #[]
  staticTypes := #[]
  resolved := Array.replicate 7 none
  statics := none }

def pool4 : Array CpInfo := pool [(2, .class_ 4), (1, u "java/lang/Object"), (0, u "<init>"), (0, u "()V"), (1, .class_ 10), (1, u "java/lang/Number"), (2, .class_ 14), (0, u "java/io/Serializable"), (0, u "serialVersionUID"), (0, u "J")] 20

def k4m0 : Method := { name := "<init>", desc := "()V", sig := { parameters := [], returnType := none }, accessFlags := 1, code := none }
/-- java/lang/Number -/
def k4 : Class := { plain "java/lang/Number" (some 0) with
  accessFlags := 1057
  interfaces := #[3]
  cf := some (fileOf pool4 8 #[] #[{ accessFlags := 1, nameIndex := 5, descriptorIndex := 6, attributes := #[] }] 1057 2 #[13] #[{ accessFlags := 26, nameIndex := 15, descriptorIndex := 16, attributes := #[] }])
  fields := #[{ name := "serialVersionUID", type := .long, accessFlags := 26, slot := 0, constantValue := 0 }]
  methods := #[k4m0]
  instanceTypes := #[]
  staticTypes := #[.long]
  resolved := Array.replicate 37 none
  statics := none }

def pool5 : Array CpInfo := pool [(1, .class_ 2), (0, u "java/lang/Comparable"), (0, .class_ 4), (0, u "java/lang/Object")] 7

/-- java/lang/Comparable -/
def k5 : Class := { plain "java/lang/Comparable" (some 0) with
  accessFlags := 1537
  interfaces := #[]
  cf := some (fileOf pool5 1 #[] #[] 1537 3 #[] #[])
  fields := #[]
  methods := #[]
  instanceTypes := #[]
  staticTypes := #[]
  resolved := Array.replicate 12 none
  statics := none }

def pool6 : Array CpInfo := pool [(1, .class_ 2), (0, u "java/lang/constant/Constable"), (0, .class_ 4), (0, u "java/lang/Object")] 6

/-- java/lang/constant/Constable -/
def k6 : Class := { plain "java/lang/constant/Constable" (some 0) with
  accessFlags := 1537
  interfaces := #[]
  cf := some (fileOf pool6 1 #[] #[] 1537 3 #[] #[])
  fields := #[]
  methods := #[]
  instanceTypes := #[]
  staticTypes := #[]
  resolved := Array.replicate 11 none
  statics := none }

def pool7 : Array CpInfo := pool [(1, .class_ 2), (0, u "java/lang/constant/ConstantDesc"), (0, .class_ 4), (0, u "java/lang/Object")] 32

/-- java/lang/constant/ConstantDesc -/
def k7 : Class := { plain "java/lang/constant/ConstantDesc" (some 0) with
  accessFlags := 1537
  interfaces := #[]
  cf := some (fileOf pool7 1 #[] #[] 1537 3 #[] #[])
  fields := #[]
  methods := #[]
  instanceTypes := #[]
  staticTypes := #[]
  resolved := Array.replicate 37 none
  statics := none }

def pool8 : Array CpInfo := pool [(1, .class_ 2), (0, u "java/lang/Long"), (15, .class_ 20), (1, u "java/lang/Integer"), (79, u "numberOfLeadingZeros"), (0, u "(J)I"), (133, .class_ 237), (1, u "java/lang/Long$LongCache"), (33, .class_ 272), (0, u "java/lang/Number"), (2, u "value"), (0, u "J"), (31, .methodref 18 309), (0, .nameAndType 100 310), (0, u "(I)I"), (50, u "TYPE"), (0, u "Ljava/lang/Class;"), (0, .class_ 364), (0, u "java/lang/Comparable"), (0, .class_ 366), (0, u "java/lang/constant/Constable"), (0, .class_ 368), (0, u "java/lang/constant/ConstantDesc"), (0, u "MIN_VALUE"), (1, u "MAX_VALUE"), (4, u "SIZE"), (0, u "I"), (1, u "BYTES"), (1, u "serialVersionUID")] 142

def k8c0 : Code := { maxStack := 3, maxLocals := 3, code := jdk_35_method_48_code, exceptionTable := #[], attributes := #[] }
def k8m0 : Method := { name := "numberOfLeadingZeros", desc := "(J)I", sig := { parameters := [.long], returnType := some .int }, accessFlags := 9, code := some k8c0 }
/-- java/lang/Long -/
def k8 : Class := { plain "java/lang/Long" (some 4) with
  accessFlags := 49
  interfaces := #[5, 6, 7]
  cf := some (fileOf pool8 1 #[.nestMembers #[235]] #[{ accessFlags := 9, nameIndex := 100, descriptorIndex := 101, attributes := #[] }] 49 271 #[363, 365, 367] #[{ accessFlags := 25, nameIndex := 369, descriptorIndex := 276, attributes := #[] }, { accessFlags := 25, nameIndex := 371, descriptorIndex := 276, attributes := #[] }, { accessFlags := 25, nameIndex := 361, descriptorIndex := 362, attributes := #[] }, { accessFlags := 18, nameIndex := 275, descriptorIndex := 276, attributes := #[] }, { accessFlags := 25, nameIndex := 376, descriptorIndex := 377, attributes := #[] }, { accessFlags := 25, nameIndex := 379, descriptorIndex := 377, attributes := #[] }, { accessFlags := 26, nameIndex := 381, descriptorIndex := 276, attributes := #[] }])
  fields := #[{ name := "MIN_VALUE", type := .long, accessFlags := 25, slot := 0, constantValue := 0 }, { name := "MAX_VALUE", type := .long, accessFlags := 25, slot := 1, constantValue := 0 }, { name := "TYPE", type := (.object "java/lang/Class"), accessFlags := 25, slot := 2, constantValue := 0 }, { name := "value", type := .long, accessFlags := 18, slot := 0, constantValue := 0 }, { name := "SIZE", type := .int, accessFlags := 25, slot := 3, constantValue := 0 }, { name := "BYTES", type := .int, accessFlags := 25, slot := 4, constantValue := 0 }, { name := "serialVersionUID", type := .long, accessFlags := 26, slot := 5, constantValue := 0 }]
  methods := #[k8m0]
  instanceTypes := #[.long]
  staticTypes := #[.long, .long, (.object "java/lang/Class"), .int, .int, .long]
  resolved := Array.replicate 524 none
  statics := none }

def pool9 : Array CpInfo := pool [(1, .class_ 2), (0, u "java/lang/Integer"), (16, u "digits"), (0, u "[C"), (32, u "numberOfLeadingZeros"), (0, u "(I)I"), (30, u "DigitOnes"), (0, u "[B"), (2, u "DigitTens"), (99, .class_ 190), (0, u "java/lang/Integer$IntegerCache"), (3, u "I"), (8, .class_ 204), (0, u "java/lang/Number"), (2, u "value"), (56, .integer 65536), (37, u "TYPE"), (0, u "Ljava/lang/Class;"), (0, .class_ 305), (0, u "java/lang/Comparable"), (0, .class_ 307), (0, u "java/lang/constant/Constable"), (0, .class_ 309), (0, u "java/lang/constant/ConstantDesc"), (0, u "MIN_VALUE"), (1, u "MAX_VALUE"), (3, u "SIZE"), (1, u "BYTES"), (1, u "serialVersionUID"), (0, u "J")] 131

def k9c0 : Code := { maxStack := 3, maxLocals := 2, code := jdk_33_method_47_code, exceptionTable := #[], attributes := #[] }
def k9m0 : Method := { name := "numberOfLeadingZeros", desc := "(I)I", sig := { parameters := [.int], returnType := some .int }, accessFlags := 9, code := some k9c0 }
/-- java/lang/Integer -/
def k9 : Class := { plain "java/lang/Integer" (some 4) with
  accessFlags := 49
  interfaces := #[5, 6, 7]
  cf := some (fileOf pool9 1 #[.nestMembers #[189]] #[{ accessFlags := 9, nameIndex := 53, descriptorIndex := 54, attributes := #[] }] 49 203 #[304, 306, 308] #[{ accessFlags := 25, nameIndex := 310, descriptorIndex := 194, attributes := #[] }, { accessFlags := 25, nameIndex := 312, descriptorIndex := 194, attributes := #[] }, { accessFlags := 25, nameIndex := 302, descriptorIndex := 303, attributes := #[] }, { accessFlags := 24, nameIndex := 19, descriptorIndex := 20, attributes := #[] }, { accessFlags := 24, nameIndex := 89, descriptorIndex := 86, attributes := #[] }, { accessFlags := 24, nameIndex := 85, descriptorIndex := 86, attributes := #[] }, { accessFlags := 18, nameIndex := 207, descriptorIndex := 194, attributes := #[] }, { accessFlags := 25, nameIndex := 316, descriptorIndex := 194, attributes := #[] }, { accessFlags := 25, nameIndex := 318, descriptorIndex := 194, attributes := #[] }, { accessFlags := 26, nameIndex := 320, descriptorIndex := 321, attributes := #[] }])
  fields := #[{ name := "MIN_VALUE", type := .int, accessFlags := 25, slot := 0, constantValue := 0 }, { name := "MAX_VALUE", type := .int, accessFlags := 25, slot := 1, constantValue := 0 }, { name := "TYPE", type := (.object "java/lang/Class"), accessFlags := 25, slot := 2, constantValue := 0 }, { name := "digits", type := (.array .char), accessFlags := 24, slot := 3, constantValue := 0 }, { name := "DigitTens", type := (.array .byte), accessFlags := 24, slot := 4, constantValue := 0 }, { name := "DigitOnes", type := (.array .byte), accessFlags := 24, slot := 5, constantValue := 0 }, { name := "value", type := .int, accessFlags := 18, slot := 0, constantValue := 0 }, { name := "SIZE", type := .int, accessFlags := 25, slot := 6, constantValue := 0 }, { name := "BYTES", type := .int, accessFlags := 25, slot := 7, constantValue := 0 }, { name := "serialVersionUID", type := .long, accessFlags := 26, slot := 8, constantValue := 0 }]
  methods := #[k9m0]
  instanceTypes := #[.int]
  staticTypes := #[.int, .int, (.object "java/lang/Class"), (.array .char), (.array .byte), (.array .byte), .int, .int, .long]
  resolved := Array.replicate 453 none
  statics := none }

def pool10 : Array CpInfo := pool [(1, u "java/lang/Cloneable"), (0, .class_ 1), (0, u "java/lang/Object"), (0, .class_ 3)] 3

/-- java/lang/Cloneable -/
def k10 : Class := { plain "java/lang/Cloneable" (some 0) with
  accessFlags := 1537
  interfaces := #[]
  cf := some (fileOf pool10 2 #[] #[] 1537 4 #[] #[])
  fields := #[]
  methods := #[]
  instanceTypes := #[]
  staticTypes := #[]
  resolved := Array.replicate 8 none
  statics := none }

/-- the primitive byte -/
def k11 : Class := { plain "byte" none with kind := .primitive 'B', accessFlags := 0x411 }
/-- [B -/
def k12 : Class := { plain "[B" (some 0) with kind := .array 11 .byte, interfaces := #[10, 3], accessFlags := 1041 }

/-- the primitive int -/
def k13 : Class := { plain "int" none with kind := .primitive 'I', accessFlags := 0x411 }
/-- [I -/
def k14 : Class := { plain "[I" (some 0) with kind := .array 13 .int, interfaces := #[10, 3], accessFlags := 1041 }

/-- the primitive long -/
def k15 : Class := { plain "long" none with kind := .primitive 'J', accessFlags := 0x411 }
/-- [J -/
def k16 : Class := { plain "[J" (some 0) with kind := .array 15 .long, interfaces := #[10, 3], accessFlags := 1041 }

def heap : Heap := #[]
def classes : Array Class := #[k0, k1, k2, k3, k4, k5, k6, k7, k8, k9, k10, k11, k12, k13, k14, k15, k16]
def interned : List (Array UInt16 × Addr) := []
def slotsUsed : Nat := 0
def theMethod : MethodId := ⟨1, 1⟩
def args0 : Array Value := #[.int 5, .int 1, .long 77]
def aboutOver (below : List Frame) : State where
  vm := { classes := classes, interned := interned.toArray }
  heap := heap
  slotsUsed := slotsUsed
  threads := #[{ frames := .invoking theMethod args0 :: below }]
def below0 : List Frame := [.native { method := ⟨0, 0⟩, args := #[] }]
def about1 : State := aboutOver below0
def p0 : Program := .bare "" "" ""
def e0 : Env := launch0.env 0 0 0
theorem w_frames : about1.frames = Frame.invoking theMethod args0 :: below0 := rfl
set_option maxRecDepth 65536 in
theorem w_args : argsFit about1.vm theMethod args0 = true := by decide +kernel
set_option maxRecDepth 65536 in
theorem w_heap : heapFits about1 = true := by decide +kernel
set_option maxRecDepth 65536 in
theorem w_runnable : about1.curStatus? = some .runnable := by decide +kernel
set_option maxRecDepth 65536 in
theorem w_alone : about1.alone = true := by decide +kernel
set_option maxRecDepth 65536 in
theorem w_named : about1.methodNamed? x = some theMethod := by decide +kernel
set_option maxRecDepth 65536 in
theorem w_hears : about1.hears theMethod below0 = true := by decide +kernel
set_option maxRecDepth 65536 in
theorem w_ripe : about1.ripe theMethod args0 below0 = true := by decide +kernel
theorem w_running : about1.status = .running := rfl
set_option maxRecDepth 65536 in
theorem w_room : about1.hasRoom e0.platform room_1 = true :=
  launch0.hasRoom_least _ room_1 (by decide +kernel) (by decide +kernel) (by decide +kernel) (by decide +kernel) (by decide +kernel) (by decide +kernel)
theorem allAtoms_all (ts : List Jvm.Cond) (a : Array Jvm.Value) (st : Jvm.State) : (allAtoms ts).before a st = ts.all (fun c => c.before a st) := by
  induction ts with
  | nil => rfl
  | cons c t ih =>
    show (Jvm.Cond.and c (allAtoms t)).before a st = _
    rw [Jvm.Cond.before_and, ih, List.all_cons]
def words1 : List Jvm.Cond := Jvm.Cond.code x code maxLocals ret :: tables_1
/-- a 'code' word, met by the world's own term for the bytes: nothing is compared byte by byte -/
theorem code_word {y : MethodName} {bytes : ByteArray} {mx : Nat} {rt : Option FieldType} {a : Array Value} {s : State} {m : MethodId} {meth : Method} {c : Code} (h1 : s.methodNamed? y = some m) (h2 : s.vm.method? m = some meth) (h3 : meth.code = some c) (h4 : c.code = bytes)
    (h5 : (c.maxLocals == mx && c.exceptionTable.isEmpty && decide (c.maxStack ≤ mostOperands) && decide (meth.sig.returnType = rt) && !meth.locks && decide (parseMethodDescriptor y.desc = some meth.sig)) = true) : (Jvm.Cond.code y bytes mx rt).before a s = true := by
  simp only [Bool.and_eq_true, beq_iff_eq, Bool.not_eq_true', decide_eq_true_eq] at h5
  obtain ⟨⟨⟨⟨⟨g1, g2⟩, g3⟩, g4⟩, g5⟩, g6⟩ := h5
  simp [Cond.before, Cond.holds, Cond.value, h1, h2, h3, h4, g1, g2, g3, g4, g5, g6]
def isCode : Jvm.Cond → Bool
  | .code _ _ _ _ => true
  | _ => false
theorem all_split {L : List Jvm.Cond} {P : Jvm.Cond → Bool} (h1 : L.all (fun c => isCode c || P c) = true) (h2 : ∀ c ∈ L.filter isCode, P c = true) : L.all P = true := by
  refine List.all_eq_true.mpr fun c hc => ?_
  have h := List.all_eq_true.mp h1 c hc
  rcases Bool.eq_false_or_eq_true (isCode c) with hi | hi
  · exact h2 c (List.mem_filter.mpr ⟨hc, hi⟩)
  · simpa [hi] using h
set_option maxRecDepth 65536 in
theorem w_c0 : (Jvm.Cond.code x code maxLocals ret).before args0 about1 = true := code_word (m := ⟨1, 1⟩) (meth := k1m1) (c := k1c1) (by decide +kernel) rfl rfl rfl (by decide +kernel)
set_option maxRecDepth 65536 in
theorem w_c1 : (Jvm.Cond.code ({ cls := "com/example/known_leaks/knownleaks/CellPacking", name := "<init>", desc := "(II)V" } : Jvm.MethodName) prog_4_method_1_code (6 : Nat) (Option.none : Option Jvm.ClassFile.FieldType)).before args0 about1 = true := code_word (m := ⟨2, 0⟩) (meth := k2m0) (c := k2c0) (by decide +kernel) rfl rfl rfl (by decide +kernel)
set_option maxRecDepth 65536 in
theorem w_c2 : (Jvm.Cond.code ({ cls := "java/lang/Object", name := "<init>", desc := "()V" } : Jvm.MethodName) object_method_1_code (1 : Nat) (Option.none : Option Jvm.ClassFile.FieldType)).before args0 about1 = true := code_word (m := ⟨0, 0⟩) (meth := k0m0) (c := k0c0) (by decide +kernel) rfl rfl rfl (by decide +kernel)
set_option maxRecDepth 65536 in
theorem w_c3 : (Jvm.Cond.code ({ cls := "java/lang/Long", name := "numberOfLeadingZeros", desc := "(J)I" } : Jvm.MethodName) jdk_35_method_48_code (3 : Nat) (Option.some Jvm.ClassFile.FieldType.int)).before args0 about1 = true := code_word (m := ⟨8, 0⟩) (meth := k8m0) (c := k8c0) (by decide +kernel) rfl rfl rfl (by decide +kernel)
set_option maxRecDepth 65536 in
theorem w_c4 : (Jvm.Cond.code ({ cls := "java/lang/Integer", name := "numberOfLeadingZeros", desc := "(I)I" } : Jvm.MethodName) jdk_33_method_47_code (2 : Nat) (Option.some Jvm.ClassFile.FieldType.int)).before args0 about1 = true := code_word (m := ⟨9, 0⟩) (meth := k9m0) (c := k9c0) (by decide +kernel) rfl rfl rfl (by decide +kernel)
set_option maxRecDepth 65536 in
theorem w_c5 : (Jvm.Cond.code ({ cls := "com/example/known_leaks/knownleaks/CellPacking", name := "bytes", desc := "(J)J" } : Jvm.MethodName) prog_4_method_6_code (5 : Nat) (Option.some Jvm.ClassFile.FieldType.long)).before args0 about1 = true := code_word (m := ⟨2, 1⟩) (meth := k2m1) (c := k2c1) (by decide +kernel) rfl rfl rfl (by decide +kernel)
def codes1 : List Jvm.Cond := [Jvm.Cond.code x code maxLocals ret, Jvm.Cond.code ({ cls := "com/example/known_leaks/knownleaks/CellPacking", name := "<init>", desc := "(II)V" } : Jvm.MethodName) prog_4_method_1_code (6 : Nat) (Option.none : Option Jvm.ClassFile.FieldType), Jvm.Cond.code ({ cls := "java/lang/Object", name := "<init>", desc := "()V" } : Jvm.MethodName) object_method_1_code (1 : Nat) (Option.none : Option Jvm.ClassFile.FieldType), Jvm.Cond.code ({ cls := "java/lang/Long", name := "numberOfLeadingZeros", desc := "(J)I" } : Jvm.MethodName) jdk_35_method_48_code (3 : Nat) (Option.some Jvm.ClassFile.FieldType.int), Jvm.Cond.code ({ cls := "java/lang/Integer", name := "numberOfLeadingZeros", desc := "(I)I" } : Jvm.MethodName) jdk_33_method_47_code (2 : Nat) (Option.some Jvm.ClassFile.FieldType.int), Jvm.Cond.code ({ cls := "com/example/known_leaks/knownleaks/CellPacking", name := "bytes", desc := "(J)J" } : Jvm.MethodName) prog_4_method_6_code (5 : Nat) (Option.some Jvm.ClassFile.FieldType.long)]
set_option maxRecDepth 65536 in
theorem codes_eq : words1.filter isCode = codes1 := rfl
theorem w_codes : ∀ c ∈ words1.filter isCode, c.before args0 about1 = true := by
  rw [codes_eq]
  intro c hc
  simp only [codes1, List.mem_cons, List.not_mem_nil, or_false] at hc
  rcases hc with rfl | rfl | rfl | rfl | rfl | rfl
  · exact w_c0
  · exact w_c1
  · exact w_c2
  · exact w_c3
  · exact w_c4
  · exact w_c5
set_option maxRecDepth 65536 in
theorem w_t1 : (words1.take 24).all (fun c => isCode c || c.before args0 about1) = true := by decide +kernel
set_option maxRecDepth 65536 in
theorem w_t2 : (words1.drop 24).all (fun c => isCode c || c.before args0 about1) = true := by decide +kernel
theorem w_tables : (allAtoms (Jvm.Cond.code x code maxLocals ret :: tables_1)).before args0 about1 = true := by
  rw [allAtoms_all]
  show words1.all (fun c => c.before args0 about1) = true
  refine all_split ?_ w_codes
  rw [← List.take_append_drop 24 words1, List.all_append, w_t1, w_t2]
  rfl
set_option maxRecDepth 65536 in
theorem w_case : (Jvm.Cond.and given_1 narrow_1).before args0 about1 = true := by decide +kernel
theorem w_applies : (headSpec (Jvm.Cond.code x code maxLocals ret :: tables_1) room_1).applies x e0.platform about1 = true :=
  (Spec.applies_iff w_frames).mpr ⟨w_running, w_runnable, w_alone, w_named, w_hears, w_ripe, w_room, w_tables⟩
theorem atStart : AtStart classFile x code maxLocals ret World_1 tables_1 room_1 Calls_1 rest_1 Pre_1 launch0 p0 e0 about1 theMethod args0 below0 :=
  ⟨lists_1, trivial, launch0.admits_env _ _ _, launch0.least_env, fairChoices_fair.cas, fairChoices_fair.clock, w_frames, w_args, w_heap, w_applies, trivial, trivial, w_case⟩
end start1
theorem witness_1 : WitnessClaimed_1 := ⟨start1.p0, start1.e0, start1.about1, start1.theMethod, start1.args0, start1.below0, start1.atStart⟩
end Jvm.Pilot.@@N@@
