import JvmDerived
import JvmDerived.Pilot.@@N@@Statement
import JvmDerived.Pilot.@@N@@Code
set_option linter.unusedVariables false
set_option linter.unusedSimpArgs false
namespace Jvm.RoadKit
open Sem ClassFile Op Lib Jvm.Stand Jvm.Free Jvm.LawKit
section New
variable {p : Program} {l : Launch} {e : Env} {R : Room} {s : State} {m : MethodId} {args : Array Value} {below : List Frame} {meth : Method} {c : Code} {T : State} {locs : List Loc} {cells slots : Nat}
theorem retI (X : Stand p l e R s m args below meth c T locs cells slots) (hx : p.tables.exec = Jvm.exec) {pc : Nat} {Ls : Array Slot} {z : Int32} {rest : List Value} (hret : meth.sig.returnType = some .int) (hd : decode c.code pc = .ok (.ireturn, 1)) {fs : List Frame}
    (hl : ∀ (f : JFrame) (acts : List Action), f.method = m → f.locked = none → f.entered = [] → (doReturn e (T.setTop f) acts (some (.int z))).1 = T.setFrames fs) : Steps p.tables e below (T.setTop (mkF m pc Ls (.int z :: rest))) (T.setFrames fs) := by
  have hm' : T.vm.method? m = some meth := X.method'
  have hn : narrow .int (.int z) = .int z := rfl
  show Steps p.tables e below (T.setTop { method := m, pc := pc, locals := Ls, stack := _ :: rest, locked := none }) _
  jvm_step X.here [X.here.top, hx, hd, hm', hret, hn]
  first | (intro acts; rw [hl _ acts rfl rfl rfl]) | rw [hl _ _ rfl rfl rfl]
  exact Steps.refl _
end New
end Jvm.RoadKit
namespace Jvm.Pilot.@@N@@
open Jvm Jvm.ClassFile Sem Op Lib Jvm.Free Jvm.Stand Jvm.LawKit Jvm.RoadKit Bundle Jvm.Pilot.@@N@@.Jvm.D
theorem ow {Z : State} {a0 : Array Value} (hw : ∀ d ∈ tables_1, d.before a0 Z = true) (i : Nat) {d : Jvm.Cond} (h : tables_1[i]? = some d) : d.before a0 Z = true := hw _ (List.mem_of_getElem? h)
abbrev Y0 : MethodName := ⟨"java/lang/Integer", "numberOfLeadingZeros", "(I)I"⟩
abbrev Y1 : MethodName := ⟨"java/lang/Long", "numberOfLeadingZeros", "(J)I"⟩
abbrev Y2 : MethodName := ⟨"java/lang/Math", "min", "(II)I"⟩
abbrev Y3 : MethodName := ⟨"com/example/known_leaks/knownleaks/CellPackingWritePinLaw", "bitLength", "(I)I"⟩
abbrev Y4 : MethodName := ⟨"com/example/known_leaks/knownleaks/CellPackingWritePinLaw", "place", "(JIII)J"⟩
abbrev Y5 : MethodName := ⟨"com/example/known_leaks/knownleaks/CellPacking", "write", "([I[BI)V"⟩
abbrev Y6 : MethodName := ⟨"com/example/known_leaks/knownleaks/CellPacking", "<init>", "(II)V"⟩
abbrev Y7 : MethodName := ⟨"com/example/known_leaks/knownleaks/CellPackingWritePinLaw", "cellAt", "([II)J"⟩
abbrev Y8 : MethodName := ⟨"com/example/known_leaks/knownleaks/CellPackingWritePinLaw", "block", "([III[J)J"⟩
abbrev Y9 : MethodName := ⟨"com/example/known_leaks/knownleaks/CellPackingWritePinLaw", "byteOk", "([BIJ)Z"⟩
def Wp (p : Program) (e : Env) (below : List Frame) (G : Outcome → State → Prop) (U : State) : Prop := ∃ s₂ o, Steps p.tables e below U s₂ ∧ s₂.status = .running ∧ Ended s₂ below o ∧ G o s₂
theorem Wp.back {p : Program} {e : Env} {below : List Frame} {G : Outcome → State → Prop} {U U' : State} (k : ∀ t, Steps p.tables e below U' t → Steps p.tables e below U t) (h : Wp p e below G U') : Wp p e below G U := by
  obtain ⟨s₂, o, h1, h2⟩ := h
  exact ⟨s₂, o, k _ h1, h2⟩
theorem Wp.done {p : Program} {e : Env} {below : List Frame} {G : Outcome → State → Prop} {U t : State} {o : Outcome} (h1 : Steps p.tables e below U t) (h2 : t.status = .running) (h3 : Ended t below o) (h4 : G o t) : Wp p e below G U := ⟨t, o, h1, h2, h3, h4⟩
/-- a body's contract -/
abbrev Met (l : Launch) (Z : State) (y : MethodName) (bytes : ByteArray) (maxL : Nat) (ret : Option FieldType) (ws : List Jvm.Cond) (R : Room) (A : Array Value) (h0 : Heap) (Q : Option Value → Heap → List Loc → Prop) : Prop :=
  MetFree l y (head1 (Jvm.Cond.code y bytes maxL ret :: ws) R) (fun a U => a = A ∧ Z.Warmed39 U.vm ∧ U.heap = h0) (fun _ _ _ _ _ => True) (fun _ U o U' => ∃ v L, o = .returned v ∧ Q v U'.heap L ∧ FrameEnd U o U' L R.cells R.slots)
theorem own_body {l : Launch} {Z : State} {y : MethodName} {bytes : ByteArray} {maxL : Nat} {ret : Option FieldType} {ws : List Jvm.Cond} {R : Room} {A : Array Value} {h0 : Heap} {Q : Option Value → Heap → List Loc → Prop} (pl : plainFor y = true)
    (k : ∀ (p : Program) (e : Env) (s : State) (m : MethodId) (below : List Frame) (meth : Method) (c : Code) (s₁ : State), p.tables.exec = Jvm.exec → c.code = bytes → meth.sig.returnType = ret → meth.locks = false → c.maxLocals = maxL → Z.Warmed39 s.vm → s.vm.findClass y.cls = some m.cls → meth.name = y.name → Stand p l e R s m A below meth c s₁ [] 0 0 → s₁.heap = h0 →
      Wp p e below (fun o s₂ => ∃ v L, o = .returned v ∧ Q v s₂.heap L ∧ FrameEnd s o s₂ L R.cells R.slots) (s₁.setTop (entryFrame m A maxL))) : Met l Z y bytes maxL ret ws R A h0 Q := by
  refine MetFree.of_bodySF pl hisR ?_
  intro p e s m args below meth c s₁ Bd hml0 hP hK
  obtain ⟨rfl, hZ, hh⟩ := hP
  exact k p e s m below meth c s₁ Bd.exec Bd.bytes Bd.returns Bd.notSynchronized hml0 hZ (findClass_of_methodNamed Bd.named) (name_of_methodNamed Bd.named Bd.method).1 (Stand.of_body Bd) (by rw [← hh, Bd.state]; rfl)
/-- what a body leaves that writes nothing -/
def QL (n0 : Nat) (v : Option Value) (h : Heap) (L : List Loc) : Prop := v = some (.int 1) ∧ Fr n0 L
def QP (r : Option Value) (h0 : Heap) (n0 : Nat) (v : Option Value) (h : Heap) (L : List Loc) : Prop := v = r ∧ Fr n0 L ∧ h = h0
theorem own_irrefl (x : Int32) : ¬ x < x := by rw [Int32.lt_iff_toInt_lt]; omega
theorem Sta_keep {Z : State} {h h' : Heap} {ws : List Addr} {C n d : String} {v : Value} (F : Sta Z h C n d v) (K : Keep h h' ws) (q : ∀ x ∈ ws, ∃ c : Cell, h[x]? = some c ∧ c.vm.isStatics = false) : Sta Z h' C n d v := by
  obtain ⟨cf, i, k, f, st, cell, h1, h2, h3, h4, h5, h6, r⟩ := F
  refine ⟨cf, i, k, f, st, cell, h1, h2, h3, h4, K.2.1 _ _ h5 (fun hm => ?_), h6, r⟩
  obtain ⟨c, hc, hs⟩ := q _ hm
  rw [h5] at hc
  cases hc
  rw [h6] at hs
  cases hs
theorem Exa_ns {Z : State} {h : Heap} {a : Addr} {C : String} (F : Exa Z h a C) : ∃ c : Cell, h[a]? = some c ∧ c.vm.isStatics = false := by
  obtain ⟨c, k, h1, h2, h3, h4, r⟩ := F
  exact ⟨c, h1, h4⟩
theorem Fld_ns {Z : State} {h : Heap} {a : Addr} {C n d : String} {v : Value} (F : Fld Z h a C n d v) : ∃ c : Cell, h[a]? = some c ∧ c.vm.isStatics = false := by
  obtain ⟨c, cf, k, i, f, h1, h2, h3, h4, h5, r⟩ := F
  exact ⟨c, h1, h5⟩
theorem Arv_ns {Z : State} {h : Heap} {a : Addr} {k : ClassId} {ty : FieldType} {n : Int32} {vs : List Value} {d : Value} (F : Arv Z h a k ty n vs d) : ∃ c : Cell, h[a]? = some c ∧ c.vm.isStatics = false := by
  obtain ⟨c, A, r⟩ := F
  exact ⟨c, A.1, A.plain⟩
theorem Sta_keep0 {Z : State} {h h' : Heap} {C n d : String} {v : Value} (F : Sta Z h C n d v) (K : Keep h h' []) : Sta Z h' C n d v := by
  obtain ⟨cf, i, k, f, st, cell, h1, h2, h3, h4, h5, r⟩ := F
  exact ⟨cf, i, k, f, st, cell, h1, h2, h3, h4, K.2.1 _ _ h5 nin0, r⟩
theorem own_of (c : Int32) (h0 : 0 ≤ c.toInt) : c = Int32.ofNat c.toInt.toNat := by
  apply Int32.toInt_inj.mp
  have := rng32 c
  rw [show (Int32.ofNat c.toInt.toNat) = c.toInt.toNat.toInt32 from rfl, len_toInt (by omega)]
  omega
theorem own_more {p : Program} {l : Launch} {e : Env} {R : Room} {s : State} {m : MethodId} {args : Array Value} {below : List Frame} {meth : Method} {c : Code} {T : State} {locs : List Loc} {cells slots c' s' : Nat} (X : Stand p l e R s m args below meth c T locs cells slots) (h1 : cells ≤ c') (h2 : slots ≤ s') : Stand p l e R s m args below meth c T locs c' s' :=
  ⟨X.admits, X.cas, X.clock, X.frames, X.room, X.hears, X.method, X.code, X.here, X.tail, X.warmed, X.limits, X.bytes, X.same.mono h1 h2⟩
def f_inz (p0 : Int32) : Int32 := (if (0 : Int32) < p0 then (if p0 < (65536 : Int32) then (if p0 < (256 : Int32) then (if p0 < (16 : Int32) then (if p0 < (4 : Int32) then ((31 : Int32) - (((p0).toUInt32 >>> ((1 : Int32) &&& 31).toUInt32).toInt32)) else ((29 : Int32) - ((((((p0).toUInt32 >>> ((2 : Int32) &&& 31).toUInt32).toInt32)).toUInt32 >>> ((1 : Int32) &&& 31).toUInt32).toInt32))) else (if (((p0).toUInt32 >>> ((4 : Int32) &&& 31).toUInt32).toInt32) < (4 : Int32) then ((27 : Int32) - ((((((p0).toUInt32 >>> ((4 : Int32) &&& 31).toUInt32).toInt32)).toUInt32 >>> ((1 : Int32) &&& 31).toUInt32).toInt32)) else ((25 : Int32) - (((((((((p0).toUInt32 >>> ((4 : Int32) &&& 31).toUInt32).toInt32)).toUInt32 >>> ((2 : Int32) &&& 31).toUInt32).toInt32)).toUInt32 >>> ((1 : Int32) &&& 31).toUInt32).toInt32)))) else (if (((p0).toUInt32 >>> ((8 : Int32) &&& 31).toUInt32).toInt32) < (16 : Int32) then (if (((p0).toUInt32 >>> ((8 : Int32) &&& 31).toUInt32).toInt32) < (4 : Int32) then ((23 : Int32) - ((((((p0).toUInt32 >>> ((8 : Int32) &&& 31).toUInt32).toInt32)).toUInt32 >>> ((1 : Int32) &&& 31).toUInt32).toInt32)) else ((21 : Int32) - (((((((((p0).toUInt32 >>> ((8 : Int32) &&& 31).toUInt32).toInt32)).toUInt32 >>> ((2 : Int32) &&& 31).toUInt32).toInt32)).toUInt32 >>> ((1 : Int32) &&& 31).toUInt32).toInt32))) else (if ((((((p0).toUInt32 >>> ((8 : Int32) &&& 31).toUInt32).toInt32)).toUInt32 >>> ((4 : Int32) &&& 31).toUInt32).toInt32) < (4 : Int32) then ((19 : Int32) - (((((((((p0).toUInt32 >>> ((8 : Int32) &&& 31).toUInt32).toInt32)).toUInt32 >>> ((4 : Int32) &&& 31).toUInt32).toInt32)).toUInt32 >>> ((1 : Int32) &&& 31).toUInt32).toInt32)) else ((17 : Int32) - ((((((((((((p0).toUInt32 >>> ((8 : Int32) &&& 31).toUInt32).toInt32)).toUInt32 >>> ((4 : Int32) &&& 31).toUInt32).toInt32)).toUInt32 >>> ((2 : Int32) &&& 31).toUInt32).toInt32)).toUInt32 >>> ((1 : Int32) &&& 31).toUInt32).toInt32))))) else (if (((p0).toUInt32 >>> ((16 : Int32) &&& 31).toUInt32).toInt32) < (256 : Int32) then (if (((p0).toUInt32 >>> ((16 : Int32) &&& 31).toUInt32).toInt32) < (16 : Int32) then (if (((p0).toUInt32 >>> ((16 : Int32) &&& 31).toUInt32).toInt32) < (4 : Int32) then ((15 : Int32) - ((((((p0).toUInt32 >>> ((16 : Int32) &&& 31).toUInt32).toInt32)).toUInt32 >>> ((1 : Int32) &&& 31).toUInt32).toInt32)) else ((13 : Int32) - (((((((((p0).toUInt32 >>> ((16 : Int32) &&& 31).toUInt32).toInt32)).toUInt32 >>> ((2 : Int32) &&& 31).toUInt32).toInt32)).toUInt32 >>> ((1 : Int32) &&& 31).toUInt32).toInt32))) else (if ((((((p0).toUInt32 >>> ((16 : Int32) &&& 31).toUInt32).toInt32)).toUInt32 >>> ((4 : Int32) &&& 31).toUInt32).toInt32) < (4 : Int32) then ((11 : Int32) - (((((((((p0).toUInt32 >>> ((16 : Int32) &&& 31).toUInt32).toInt32)).toUInt32 >>> ((4 : Int32) &&& 31).toUInt32).toInt32)).toUInt32 >>> ((1 : Int32) &&& 31).toUInt32).toInt32)) else ((9 : Int32) - ((((((((((((p0).toUInt32 >>> ((16 : Int32) &&& 31).toUInt32).toInt32)).toUInt32 >>> ((4 : Int32) &&& 31).toUInt32).toInt32)).toUInt32 >>> ((2 : Int32) &&& 31).toUInt32).toInt32)).toUInt32 >>> ((1 : Int32) &&& 31).toUInt32).toInt32)))) else (if ((((((p0).toUInt32 >>> ((16 : Int32) &&& 31).toUInt32).toInt32)).toUInt32 >>> ((8 : Int32) &&& 31).toUInt32).toInt32) < (16 : Int32) then (if ((((((p0).toUInt32 >>> ((16 : Int32) &&& 31).toUInt32).toInt32)).toUInt32 >>> ((8 : Int32) &&& 31).toUInt32).toInt32) < (4 : Int32) then ((7 : Int32) - (((((((((p0).toUInt32 >>> ((16 : Int32) &&& 31).toUInt32).toInt32)).toUInt32 >>> ((8 : Int32) &&& 31).toUInt32).toInt32)).toUInt32 >>> ((1 : Int32) &&& 31).toUInt32).toInt32)) else ((5 : Int32) - ((((((((((((p0).toUInt32 >>> ((16 : Int32) &&& 31).toUInt32).toInt32)).toUInt32 >>> ((8 : Int32) &&& 31).toUInt32).toInt32)).toUInt32 >>> ((2 : Int32) &&& 31).toUInt32).toInt32)).toUInt32 >>> ((1 : Int32) &&& 31).toUInt32).toInt32))) else (if (((((((((p0).toUInt32 >>> ((16 : Int32) &&& 31).toUInt32).toInt32)).toUInt32 >>> ((8 : Int32) &&& 31).toUInt32).toInt32)).toUInt32 >>> ((4 : Int32) &&& 31).toUInt32).toInt32) < (4 : Int32) then ((3 : Int32) - ((((((((((((p0).toUInt32 >>> ((16 : Int32) &&& 31).toUInt32).toInt32)).toUInt32 >>> ((8 : Int32) &&& 31).toUInt32).toInt32)).toUInt32 >>> ((4 : Int32) &&& 31).toUInt32).toInt32)).toUInt32 >>> ((1 : Int32) &&& 31).toUInt32).toInt32)) else ((1 : Int32) - (((((((((((((((p0).toUInt32 >>> ((16 : Int32) &&& 31).toUInt32).toInt32)).toUInt32 >>> ((8 : Int32) &&& 31).toUInt32).toInt32)).toUInt32 >>> ((4 : Int32) &&& 31).toUInt32).toInt32)).toUInt32 >>> ((2 : Int32) &&& 31).toUInt32).toInt32)).toUInt32 >>> ((1 : Int32) &&& 31).toUInt32).toInt32)))))) else (if p0 = (0 : Int32) then (32 : Int32) else (0 : Int32)))
theorem d5_0 : decode jdk_33_method_47_code 0 = .ok (.iload_n 0, 1) := by decide +kernel
theorem d5_1 : decode jdk_33_method_47_code 1 = .ok (.ifCond .gt 14, 3) := by decide +kernel
theorem d5_4 : decode jdk_33_method_47_code 4 = .ok (.iload_n 0, 1) := by decide +kernel
theorem d5_5 : decode jdk_33_method_47_code 5 = .ok (.ifCond .ne 8, 3) := by decide +kernel
theorem d5_8 : decode jdk_33_method_47_code 8 = .ok (.bipush 32, 2) := by decide +kernel
theorem d5_10 : decode jdk_33_method_47_code 10 = .ok (.goto 4, 3) := by decide +kernel
theorem d5_13 : decode jdk_33_method_47_code 13 = .ok (.iconst 0, 1) := by decide +kernel
theorem d5_14 : decode jdk_33_method_47_code 14 = .ok (.ireturn, 1) := by decide +kernel
theorem d5_15 : decode jdk_33_method_47_code 15 = .ok (.bipush 31, 2) := by decide +kernel
theorem d5_17 : decode jdk_33_method_47_code 17 = .ok (.istore_n 1, 1) := by decide +kernel
theorem d5_18 : decode jdk_33_method_47_code 18 = .ok (.iload_n 0, 1) := by decide +kernel
theorem d5_19 : decode jdk_33_method_47_code 19 = .ok (.ldc_w 264, 3) := by decide +kernel
theorem d5_22 : decode jdk_33_method_47_code 22 = .ok (.if_icmp .lt 11, 3) := by decide +kernel
theorem d5_25 : decode jdk_33_method_47_code 25 = .ok (.iinc 1 (-16), 3) := by decide +kernel
theorem d5_28 : decode jdk_33_method_47_code 28 = .ok (.iload_n 0, 1) := by decide +kernel
theorem d5_29 : decode jdk_33_method_47_code 29 = .ok (.bipush 16, 2) := by decide +kernel
theorem d5_31 : decode jdk_33_method_47_code 31 = .ok (.iushr, 1) := by decide +kernel
theorem d5_32 : decode jdk_33_method_47_code 32 = .ok (.istore_n 0, 1) := by decide +kernel
theorem d5_33 : decode jdk_33_method_47_code 33 = .ok (.iload_n 0, 1) := by decide +kernel
theorem d5_34 : decode jdk_33_method_47_code 34 = .ok (.sipush 256, 3) := by decide +kernel
theorem d5_37 : decode jdk_33_method_47_code 37 = .ok (.if_icmp .lt 11, 3) := by decide +kernel
theorem d5_40 : decode jdk_33_method_47_code 40 = .ok (.iinc 1 (-8), 3) := by decide +kernel
theorem d5_43 : decode jdk_33_method_47_code 43 = .ok (.iload_n 0, 1) := by decide +kernel
theorem d5_44 : decode jdk_33_method_47_code 44 = .ok (.bipush 8, 2) := by decide +kernel
theorem d5_46 : decode jdk_33_method_47_code 46 = .ok (.iushr, 1) := by decide +kernel
theorem d5_47 : decode jdk_33_method_47_code 47 = .ok (.istore_n 0, 1) := by decide +kernel
theorem d5_48 : decode jdk_33_method_47_code 48 = .ok (.iload_n 0, 1) := by decide +kernel
theorem d5_49 : decode jdk_33_method_47_code 49 = .ok (.bipush 16, 2) := by decide +kernel
theorem d5_51 : decode jdk_33_method_47_code 51 = .ok (.if_icmp .lt 10, 3) := by decide +kernel
theorem d5_54 : decode jdk_33_method_47_code 54 = .ok (.iinc 1 (-4), 3) := by decide +kernel
theorem d5_57 : decode jdk_33_method_47_code 57 = .ok (.iload_n 0, 1) := by decide +kernel
theorem d5_58 : decode jdk_33_method_47_code 58 = .ok (.iconst 4, 1) := by decide +kernel
theorem d5_59 : decode jdk_33_method_47_code 59 = .ok (.iushr, 1) := by decide +kernel
theorem d5_60 : decode jdk_33_method_47_code 60 = .ok (.istore_n 0, 1) := by decide +kernel
theorem d5_61 : decode jdk_33_method_47_code 61 = .ok (.iload_n 0, 1) := by decide +kernel
theorem d5_62 : decode jdk_33_method_47_code 62 = .ok (.iconst 4, 1) := by decide +kernel
theorem d5_63 : decode jdk_33_method_47_code 63 = .ok (.if_icmp .lt 10, 3) := by decide +kernel
theorem d5_66 : decode jdk_33_method_47_code 66 = .ok (.iinc 1 (-2), 3) := by decide +kernel
theorem d5_69 : decode jdk_33_method_47_code 69 = .ok (.iload_n 0, 1) := by decide +kernel
theorem d5_70 : decode jdk_33_method_47_code 70 = .ok (.iconst 2, 1) := by decide +kernel
theorem d5_71 : decode jdk_33_method_47_code 71 = .ok (.iushr, 1) := by decide +kernel
theorem d5_72 : decode jdk_33_method_47_code 72 = .ok (.istore_n 0, 1) := by decide +kernel
theorem d5_73 : decode jdk_33_method_47_code 73 = .ok (.iload_n 1, 1) := by decide +kernel
theorem d5_74 : decode jdk_33_method_47_code 74 = .ok (.iload_n 0, 1) := by decide +kernel
theorem d5_75 : decode jdk_33_method_47_code 75 = .ok (.iconst 1, 1) := by decide +kernel
theorem d5_76 : decode jdk_33_method_47_code 76 = .ok (.iushr, 1) := by decide +kernel
theorem d5_77 : decode jdk_33_method_47_code 77 = .ok (.isub, 1) := by decide +kernel
theorem d5_78 : decode jdk_33_method_47_code 78 = .ok (.ireturn, 1) := by decide +kernel
theorem pn5 : plainName "java/lang/Integer" = true := by first | (simp [plainName, overriddenIn]; done) | decide +kernel
theorem ef5_I (m : MethodId) (x0 : Int32) : entryFrame m #[(.int x0)] 2 = mkF m 0 #[.val (.int x0), .unset] [] := by first | (simp [entryFrame, mkF, argsToLocals, Value.category]; done) | rfl
set_option maxRecDepth 65536 in
set_option maxHeartbeats 40000000 in
theorem rm_f_inz (l : Launch) (Z : State) (a0 : Array Value) (hw : ∀ d ∈ tables_1, d.before a0 Z = true) (ws : List Jvm.Cond) (p0 : Int32) (h0 : Heap) (n0 : Nat) (Z0 : n0 ≤ h0.size)  :
    Met l Z Y0 jdk_33_method_47_code 2 (some .int) ws ({ frames := 0, cells := 0, slots := 0, locals := 0 } : Room) #[(.int p0)] h0 (QP (some (.int (f_inz p0))) h0 n0) := by
  refine own_body (plainFor_of_name pn5) ?_
  intro p e s m below meth c s₁ hx hby hret hlk hml hZ hown hnm X0 e0
  have N0 := Fr.nil n0
  refine Wp.back (U' := (s₁.setTop (mkF m 0 #[.val (.int p0), .unset] []))) (fun t k => castTop (ef5_I m p0) k) ?_
  refine Wp.back (U' := (s₁.setTop (mkF m 1 #[.val (.int p0), .unset] [(.int p0)]))) (fun t k => XS.iloadN X0.here hx rfl (hb hby d5_0) rfl k) ?_
  by_cases c1_1 : (0 : Int32) < p0
  · refine Wp.back (U' := (s₁.setTop (mkF m 22 #[.val (.int p0), .val (.int 31)] [(.int 65536), (.int p0)]))) (fun t k => XS.ifYes X0.here hx rfl (pc0 := 1) (pc' := 15) rfl (hb hby d5_1) rfl ((if0 _ _).trans (tlt c1_1).2.2.1) (by decide) (by decide) (XT.bipushV X0.here hx rfl 31 (hb hby d5_15) (by decide) (XS.istoreN X0.here hx rfl (hb hby d5_17) rfl (l' := #[.val (.int p0), .val (.int 31)]) rfl (XS.iloadN X0.here hx rfl (hb hby d5_18) rfl (Jvm.Stand.ldcWI X0 hx hown (mvT hZ (ow hw 29 rfl)) rfl (hb hby d5_19) k))))) ?_
    by_cases c22_2 : p0 < (65536 : Int32)
    · refine Wp.back (U' := (s₁.setTop (mkF m 37 #[.val (.int p0), .val (.int 31)] [(.int 256), (.int p0)]))) (fun t k => XS.icmpYes X0.here hx rfl (pc0 := 22) (pc' := 33) rfl (hb hby d5_22) rfl (tlt c22_2).1 (by decide) (by decide) (XS.iloadN X0.here hx rfl (hb hby d5_33) rfl (XT.sipushV X0.here hx rfl 256 (hb hby d5_34) (by decide) k))) ?_
      by_cases c37_3 : p0 < (256 : Int32)
      · refine Wp.back (U' := (s₁.setTop (mkF m 51 #[.val (.int p0), .val (.int 31)] [(.int 16), (.int p0)]))) (fun t k => XS.icmpYes X0.here hx rfl (pc0 := 37) (pc' := 48) rfl (hb hby d5_37) rfl (tlt c37_3).1 (by decide) (by decide) (XS.iloadN X0.here hx rfl (hb hby d5_48) rfl (XT.bipushV X0.here hx rfl 16 (hb hby d5_49) (by decide) k))) ?_
        by_cases c51_4 : p0 < (16 : Int32)
        · refine Wp.back (U' := (s₁.setTop (mkF m 63 #[.val (.int p0), .val (.int 31)] [(.int 4), (.int p0)]))) (fun t k => XS.icmpYes X0.here hx rfl (pc0 := 51) (pc' := 61) rfl (hb hby d5_51) rfl (tlt c51_4).1 (by decide) (by decide) (XS.iloadN X0.here hx rfl (hb hby d5_61) rfl (XT.iconstV X0.here hx rfl 4 (hb hby d5_62) (by decide) k))) ?_
          by_cases c63_5 : p0 < (4 : Int32)
          · refine Wp.back (U' := (s₁.setTop (mkF m 78 #[.val (.int p0), .val (.int 31)] [(.int ((31 : Int32) - (((p0).toUInt32 >>> ((1 : Int32) &&& 31).toUInt32).toInt32)))]))) (fun t k => XS.icmpYes X0.here hx rfl (pc0 := 63) (pc' := 73) rfl (hb hby d5_63) rfl (tlt c63_5).1 (by decide) (by decide) (XS.iloadN X0.here hx rfl (hb hby d5_73) rfl (XS.iloadN X0.here hx rfl (hb hby d5_74) rfl (XT.iconstV X0.here hx rfl 1 (hb hby d5_75) (by decide) (XS.iushr X0.here hx rfl (hb hby d5_76) rfl (XS.isub X0.here hx rfl (hb hby d5_77) rfl k)))))) ?_
            obtain ⟨fs, hr, hrun, hended, hW, hsame⟩ := X0.leave (v := (some (.int ((31 : Int32) - (((p0).toUInt32 >>> ((1 : Int32) &&& 31).toUInt32).toInt32))))) (fun h => by rw [hret] at h; cases h)
            refine Wp.done (retI X0 hx hret (hb hby d5_78) hr) hrun hended ⟨_, _, rfl, ?_, ⟨_, rfl⟩, hW, hsame.mono (by decide) (by decide)⟩
            show QP _ h0 n0 _ s₁.heap _
            exact ⟨(by rw [f_inz, if_pos c1_1, if_pos c22_2, if_pos c37_3, if_pos c51_4, if_pos c63_5]), N0, e0⟩
          · refine Wp.back (U' := (s₁.setTop (mkF m 78 #[.val (.int (((p0).toUInt32 >>> ((2 : Int32) &&& 31).toUInt32).toInt32)), .val (.int 29)] [(.int ((29 : Int32) - ((((((p0).toUInt32 >>> ((2 : Int32) &&& 31).toUInt32).toInt32)).toUInt32 >>> ((1 : Int32) &&& 31).toUInt32).toInt32)))]))) (fun t k => XS.icmpNo X0.here hx rfl (hb hby d5_63) rfl (flt c63_5).1 (XT.iincV X0.here hx rfl (-2 : Int32) (hb hby d5_66) (by decide) rfl (l' := #[.val (.int p0), .val (.int 29)]) rfl (XS.iloadN X0.here hx rfl (hb hby d5_69) rfl (XT.iconstV X0.here hx rfl 2 (hb hby d5_70) (by decide) (XS.iushr X0.here hx rfl (hb hby d5_71) rfl (XS.istoreN X0.here hx rfl (hb hby d5_72) rfl (l' := #[.val (.int (((p0).toUInt32 >>> ((2 : Int32) &&& 31).toUInt32).toInt32)), .val (.int 29)]) rfl (XS.iloadN X0.here hx rfl (hb hby d5_73) rfl (XS.iloadN X0.here hx rfl (hb hby d5_74) rfl (XT.iconstV X0.here hx rfl 1 (hb hby d5_75) (by decide) (XS.iushr X0.here hx rfl (hb hby d5_76) rfl (XS.isub X0.here hx rfl (hb hby d5_77) rfl k))))))))))) ?_
            obtain ⟨fs, hr, hrun, hended, hW, hsame⟩ := X0.leave (v := (some (.int ((29 : Int32) - ((((((p0).toUInt32 >>> ((2 : Int32) &&& 31).toUInt32).toInt32)).toUInt32 >>> ((1 : Int32) &&& 31).toUInt32).toInt32))))) (fun h => by rw [hret] at h; cases h)
            refine Wp.done (retI X0 hx hret (hb hby d5_78) hr) hrun hended ⟨_, _, rfl, ?_, ⟨_, rfl⟩, hW, hsame.mono (by decide) (by decide)⟩
            show QP _ h0 n0 _ s₁.heap _
            exact ⟨(by rw [f_inz, if_pos c1_1, if_pos c22_2, if_pos c37_3, if_pos c51_4, if_neg c63_5]), N0, e0⟩
        · refine Wp.back (U' := (s₁.setTop (mkF m 63 #[.val (.int (((p0).toUInt32 >>> ((4 : Int32) &&& 31).toUInt32).toInt32)), .val (.int 27)] [(.int 4), (.int (((p0).toUInt32 >>> ((4 : Int32) &&& 31).toUInt32).toInt32))]))) (fun t k => XS.icmpNo X0.here hx rfl (hb hby d5_51) rfl (flt c51_4).1 (XT.iincV X0.here hx rfl (-4 : Int32) (hb hby d5_54) (by decide) rfl (l' := #[.val (.int p0), .val (.int 27)]) rfl (XS.iloadN X0.here hx rfl (hb hby d5_57) rfl (XT.iconstV X0.here hx rfl 4 (hb hby d5_58) (by decide) (XS.iushr X0.here hx rfl (hb hby d5_59) rfl (XS.istoreN X0.here hx rfl (hb hby d5_60) rfl (l' := #[.val (.int (((p0).toUInt32 >>> ((4 : Int32) &&& 31).toUInt32).toInt32)), .val (.int 27)]) rfl (XS.iloadN X0.here hx rfl (hb hby d5_61) rfl (XT.iconstV X0.here hx rfl 4 (hb hby d5_62) (by decide) k)))))))) ?_
          by_cases c63_6 : (((p0).toUInt32 >>> ((4 : Int32) &&& 31).toUInt32).toInt32) < (4 : Int32)
          · refine Wp.back (U' := (s₁.setTop (mkF m 78 #[.val (.int (((p0).toUInt32 >>> ((4 : Int32) &&& 31).toUInt32).toInt32)), .val (.int 27)] [(.int ((27 : Int32) - ((((((p0).toUInt32 >>> ((4 : Int32) &&& 31).toUInt32).toInt32)).toUInt32 >>> ((1 : Int32) &&& 31).toUInt32).toInt32)))]))) (fun t k => XS.icmpYes X0.here hx rfl (pc0 := 63) (pc' := 73) rfl (hb hby d5_63) rfl (tlt c63_6).1 (by decide) (by decide) (XS.iloadN X0.here hx rfl (hb hby d5_73) rfl (XS.iloadN X0.here hx rfl (hb hby d5_74) rfl (XT.iconstV X0.here hx rfl 1 (hb hby d5_75) (by decide) (XS.iushr X0.here hx rfl (hb hby d5_76) rfl (XS.isub X0.here hx rfl (hb hby d5_77) rfl k)))))) ?_
            obtain ⟨fs, hr, hrun, hended, hW, hsame⟩ := X0.leave (v := (some (.int ((27 : Int32) - ((((((p0).toUInt32 >>> ((4 : Int32) &&& 31).toUInt32).toInt32)).toUInt32 >>> ((1 : Int32) &&& 31).toUInt32).toInt32))))) (fun h => by rw [hret] at h; cases h)
            refine Wp.done (retI X0 hx hret (hb hby d5_78) hr) hrun hended ⟨_, _, rfl, ?_, ⟨_, rfl⟩, hW, hsame.mono (by decide) (by decide)⟩
            show QP _ h0 n0 _ s₁.heap _
            exact ⟨(by rw [f_inz, if_pos c1_1, if_pos c22_2, if_pos c37_3, if_neg c51_4, if_pos c63_6]), N0, e0⟩
          · refine Wp.back (U' := (s₁.setTop (mkF m 78 #[.val (.int ((((((p0).toUInt32 >>> ((4 : Int32) &&& 31).toUInt32).toInt32)).toUInt32 >>> ((2 : Int32) &&& 31).toUInt32).toInt32)), .val (.int 25)] [(.int ((25 : Int32) - (((((((((p0).toUInt32 >>> ((4 : Int32) &&& 31).toUInt32).toInt32)).toUInt32 >>> ((2 : Int32) &&& 31).toUInt32).toInt32)).toUInt32 >>> ((1 : Int32) &&& 31).toUInt32).toInt32)))]))) (fun t k => XS.icmpNo X0.here hx rfl (hb hby d5_63) rfl (flt c63_6).1 (XT.iincV X0.here hx rfl (-2 : Int32) (hb hby d5_66) (by decide) rfl (l' := #[.val (.int (((p0).toUInt32 >>> ((4 : Int32) &&& 31).toUInt32).toInt32)), .val (.int 25)]) rfl (XS.iloadN X0.here hx rfl (hb hby d5_69) rfl (XT.iconstV X0.here hx rfl 2 (hb hby d5_70) (by decide) (XS.iushr X0.here hx rfl (hb hby d5_71) rfl (XS.istoreN X0.here hx rfl (hb hby d5_72) rfl (l' := #[.val (.int ((((((p0).toUInt32 >>> ((4 : Int32) &&& 31).toUInt32).toInt32)).toUInt32 >>> ((2 : Int32) &&& 31).toUInt32).toInt32)), .val (.int 25)]) rfl (XS.iloadN X0.here hx rfl (hb hby d5_73) rfl (XS.iloadN X0.here hx rfl (hb hby d5_74) rfl (XT.iconstV X0.here hx rfl 1 (hb hby d5_75) (by decide) (XS.iushr X0.here hx rfl (hb hby d5_76) rfl (XS.isub X0.here hx rfl (hb hby d5_77) rfl k))))))))))) ?_
            obtain ⟨fs, hr, hrun, hended, hW, hsame⟩ := X0.leave (v := (some (.int ((25 : Int32) - (((((((((p0).toUInt32 >>> ((4 : Int32) &&& 31).toUInt32).toInt32)).toUInt32 >>> ((2 : Int32) &&& 31).toUInt32).toInt32)).toUInt32 >>> ((1 : Int32) &&& 31).toUInt32).toInt32))))) (fun h => by rw [hret] at h; cases h)
            refine Wp.done (retI X0 hx hret (hb hby d5_78) hr) hrun hended ⟨_, _, rfl, ?_, ⟨_, rfl⟩, hW, hsame.mono (by decide) (by decide)⟩
            show QP _ h0 n0 _ s₁.heap _
            exact ⟨(by rw [f_inz, if_pos c1_1, if_pos c22_2, if_pos c37_3, if_neg c51_4, if_neg c63_6]), N0, e0⟩
      · refine Wp.back (U' := (s₁.setTop (mkF m 51 #[.val (.int (((p0).toUInt32 >>> ((8 : Int32) &&& 31).toUInt32).toInt32)), .val (.int 23)] [(.int 16), (.int (((p0).toUInt32 >>> ((8 : Int32) &&& 31).toUInt32).toInt32))]))) (fun t k => XS.icmpNo X0.here hx rfl (hb hby d5_37) rfl (flt c37_3).1 (XT.iincV X0.here hx rfl (-8 : Int32) (hb hby d5_40) (by decide) rfl (l' := #[.val (.int p0), .val (.int 23)]) rfl (XS.iloadN X0.here hx rfl (hb hby d5_43) rfl (XT.bipushV X0.here hx rfl 8 (hb hby d5_44) (by decide) (XS.iushr X0.here hx rfl (hb hby d5_46) rfl (XS.istoreN X0.here hx rfl (hb hby d5_47) rfl (l' := #[.val (.int (((p0).toUInt32 >>> ((8 : Int32) &&& 31).toUInt32).toInt32)), .val (.int 23)]) rfl (XS.iloadN X0.here hx rfl (hb hby d5_48) rfl (XT.bipushV X0.here hx rfl 16 (hb hby d5_49) (by decide) k)))))))) ?_
        by_cases c51_7 : (((p0).toUInt32 >>> ((8 : Int32) &&& 31).toUInt32).toInt32) < (16 : Int32)
        · refine Wp.back (U' := (s₁.setTop (mkF m 63 #[.val (.int (((p0).toUInt32 >>> ((8 : Int32) &&& 31).toUInt32).toInt32)), .val (.int 23)] [(.int 4), (.int (((p0).toUInt32 >>> ((8 : Int32) &&& 31).toUInt32).toInt32))]))) (fun t k => XS.icmpYes X0.here hx rfl (pc0 := 51) (pc' := 61) rfl (hb hby d5_51) rfl (tlt c51_7).1 (by decide) (by decide) (XS.iloadN X0.here hx rfl (hb hby d5_61) rfl (XT.iconstV X0.here hx rfl 4 (hb hby d5_62) (by decide) k))) ?_
          by_cases c63_8 : (((p0).toUInt32 >>> ((8 : Int32) &&& 31).toUInt32).toInt32) < (4 : Int32)
          · refine Wp.back (U' := (s₁.setTop (mkF m 78 #[.val (.int (((p0).toUInt32 >>> ((8 : Int32) &&& 31).toUInt32).toInt32)), .val (.int 23)] [(.int ((23 : Int32) - ((((((p0).toUInt32 >>> ((8 : Int32) &&& 31).toUInt32).toInt32)).toUInt32 >>> ((1 : Int32) &&& 31).toUInt32).toInt32)))]))) (fun t k => XS.icmpYes X0.here hx rfl (pc0 := 63) (pc' := 73) rfl (hb hby d5_63) rfl (tlt c63_8).1 (by decide) (by decide) (XS.iloadN X0.here hx rfl (hb hby d5_73) rfl (XS.iloadN X0.here hx rfl (hb hby d5_74) rfl (XT.iconstV X0.here hx rfl 1 (hb hby d5_75) (by decide) (XS.iushr X0.here hx rfl (hb hby d5_76) rfl (XS.isub X0.here hx rfl (hb hby d5_77) rfl k)))))) ?_
            obtain ⟨fs, hr, hrun, hended, hW, hsame⟩ := X0.leave (v := (some (.int ((23 : Int32) - ((((((p0).toUInt32 >>> ((8 : Int32) &&& 31).toUInt32).toInt32)).toUInt32 >>> ((1 : Int32) &&& 31).toUInt32).toInt32))))) (fun h => by rw [hret] at h; cases h)
            refine Wp.done (retI X0 hx hret (hb hby d5_78) hr) hrun hended ⟨_, _, rfl, ?_, ⟨_, rfl⟩, hW, hsame.mono (by decide) (by decide)⟩
            show QP _ h0 n0 _ s₁.heap _
            exact ⟨(by rw [f_inz, if_pos c1_1, if_pos c22_2, if_neg c37_3, if_pos c51_7, if_pos c63_8]), N0, e0⟩
          · refine Wp.back (U' := (s₁.setTop (mkF m 78 #[.val (.int ((((((p0).toUInt32 >>> ((8 : Int32) &&& 31).toUInt32).toInt32)).toUInt32 >>> ((2 : Int32) &&& 31).toUInt32).toInt32)), .val (.int 21)] [(.int ((21 : Int32) - (((((((((p0).toUInt32 >>> ((8 : Int32) &&& 31).toUInt32).toInt32)).toUInt32 >>> ((2 : Int32) &&& 31).toUInt32).toInt32)).toUInt32 >>> ((1 : Int32) &&& 31).toUInt32).toInt32)))]))) (fun t k => XS.icmpNo X0.here hx rfl (hb hby d5_63) rfl (flt c63_8).1 (XT.iincV X0.here hx rfl (-2 : Int32) (hb hby d5_66) (by decide) rfl (l' := #[.val (.int (((p0).toUInt32 >>> ((8 : Int32) &&& 31).toUInt32).toInt32)), .val (.int 21)]) rfl (XS.iloadN X0.here hx rfl (hb hby d5_69) rfl (XT.iconstV X0.here hx rfl 2 (hb hby d5_70) (by decide) (XS.iushr X0.here hx rfl (hb hby d5_71) rfl (XS.istoreN X0.here hx rfl (hb hby d5_72) rfl (l' := #[.val (.int ((((((p0).toUInt32 >>> ((8 : Int32) &&& 31).toUInt32).toInt32)).toUInt32 >>> ((2 : Int32) &&& 31).toUInt32).toInt32)), .val (.int 21)]) rfl (XS.iloadN X0.here hx rfl (hb hby d5_73) rfl (XS.iloadN X0.here hx rfl (hb hby d5_74) rfl (XT.iconstV X0.here hx rfl 1 (hb hby d5_75) (by decide) (XS.iushr X0.here hx rfl (hb hby d5_76) rfl (XS.isub X0.here hx rfl (hb hby d5_77) rfl k))))))))))) ?_
            obtain ⟨fs, hr, hrun, hended, hW, hsame⟩ := X0.leave (v := (some (.int ((21 : Int32) - (((((((((p0).toUInt32 >>> ((8 : Int32) &&& 31).toUInt32).toInt32)).toUInt32 >>> ((2 : Int32) &&& 31).toUInt32).toInt32)).toUInt32 >>> ((1 : Int32) &&& 31).toUInt32).toInt32))))) (fun h => by rw [hret] at h; cases h)
            refine Wp.done (retI X0 hx hret (hb hby d5_78) hr) hrun hended ⟨_, _, rfl, ?_, ⟨_, rfl⟩, hW, hsame.mono (by decide) (by decide)⟩
            show QP _ h0 n0 _ s₁.heap _
            exact ⟨(by rw [f_inz, if_pos c1_1, if_pos c22_2, if_neg c37_3, if_pos c51_7, if_neg c63_8]), N0, e0⟩
        · refine Wp.back (U' := (s₁.setTop (mkF m 63 #[.val (.int ((((((p0).toUInt32 >>> ((8 : Int32) &&& 31).toUInt32).toInt32)).toUInt32 >>> ((4 : Int32) &&& 31).toUInt32).toInt32)), .val (.int 19)] [(.int 4), (.int ((((((p0).toUInt32 >>> ((8 : Int32) &&& 31).toUInt32).toInt32)).toUInt32 >>> ((4 : Int32) &&& 31).toUInt32).toInt32))]))) (fun t k => XS.icmpNo X0.here hx rfl (hb hby d5_51) rfl (flt c51_7).1 (XT.iincV X0.here hx rfl (-4 : Int32) (hb hby d5_54) (by decide) rfl (l' := #[.val (.int (((p0).toUInt32 >>> ((8 : Int32) &&& 31).toUInt32).toInt32)), .val (.int 19)]) rfl (XS.iloadN X0.here hx rfl (hb hby d5_57) rfl (XT.iconstV X0.here hx rfl 4 (hb hby d5_58) (by decide) (XS.iushr X0.here hx rfl (hb hby d5_59) rfl (XS.istoreN X0.here hx rfl (hb hby d5_60) rfl (l' := #[.val (.int ((((((p0).toUInt32 >>> ((8 : Int32) &&& 31).toUInt32).toInt32)).toUInt32 >>> ((4 : Int32) &&& 31).toUInt32).toInt32)), .val (.int 19)]) rfl (XS.iloadN X0.here hx rfl (hb hby d5_61) rfl (XT.iconstV X0.here hx rfl 4 (hb hby d5_62) (by decide) k)))))))) ?_
          by_cases c63_9 : ((((((p0).toUInt32 >>> ((8 : Int32) &&& 31).toUInt32).toInt32)).toUInt32 >>> ((4 : Int32) &&& 31).toUInt32).toInt32) < (4 : Int32)
          · refine Wp.back (U' := (s₁.setTop (mkF m 78 #[.val (.int ((((((p0).toUInt32 >>> ((8 : Int32) &&& 31).toUInt32).toInt32)).toUInt32 >>> ((4 : Int32) &&& 31).toUInt32).toInt32)), .val (.int 19)] [(.int ((19 : Int32) - (((((((((p0).toUInt32 >>> ((8 : Int32) &&& 31).toUInt32).toInt32)).toUInt32 >>> ((4 : Int32) &&& 31).toUInt32).toInt32)).toUInt32 >>> ((1 : Int32) &&& 31).toUInt32).toInt32)))]))) (fun t k => XS.icmpYes X0.here hx rfl (pc0 := 63) (pc' := 73) rfl (hb hby d5_63) rfl (tlt c63_9).1 (by decide) (by decide) (XS.iloadN X0.here hx rfl (hb hby d5_73) rfl (XS.iloadN X0.here hx rfl (hb hby d5_74) rfl (XT.iconstV X0.here hx rfl 1 (hb hby d5_75) (by decide) (XS.iushr X0.here hx rfl (hb hby d5_76) rfl (XS.isub X0.here hx rfl (hb hby d5_77) rfl k)))))) ?_
            obtain ⟨fs, hr, hrun, hended, hW, hsame⟩ := X0.leave (v := (some (.int ((19 : Int32) - (((((((((p0).toUInt32 >>> ((8 : Int32) &&& 31).toUInt32).toInt32)).toUInt32 >>> ((4 : Int32) &&& 31).toUInt32).toInt32)).toUInt32 >>> ((1 : Int32) &&& 31).toUInt32).toInt32))))) (fun h => by rw [hret] at h; cases h)
            refine Wp.done (retI X0 hx hret (hb hby d5_78) hr) hrun hended ⟨_, _, rfl, ?_, ⟨_, rfl⟩, hW, hsame.mono (by decide) (by decide)⟩
            show QP _ h0 n0 _ s₁.heap _
            exact ⟨(by rw [f_inz, if_pos c1_1, if_pos c22_2, if_neg c37_3, if_neg c51_7, if_pos c63_9]), N0, e0⟩
          · refine Wp.back (U' := (s₁.setTop (mkF m 78 #[.val (.int (((((((((p0).toUInt32 >>> ((8 : Int32) &&& 31).toUInt32).toInt32)).toUInt32 >>> ((4 : Int32) &&& 31).toUInt32).toInt32)).toUInt32 >>> ((2 : Int32) &&& 31).toUInt32).toInt32)), .val (.int 17)] [(.int ((17 : Int32) - ((((((((((((p0).toUInt32 >>> ((8 : Int32) &&& 31).toUInt32).toInt32)).toUInt32 >>> ((4 : Int32) &&& 31).toUInt32).toInt32)).toUInt32 >>> ((2 : Int32) &&& 31).toUInt32).toInt32)).toUInt32 >>> ((1 : Int32) &&& 31).toUInt32).toInt32)))]))) (fun t k => XS.icmpNo X0.here hx rfl (hb hby d5_63) rfl (flt c63_9).1 (XT.iincV X0.here hx rfl (-2 : Int32) (hb hby d5_66) (by decide) rfl (l' := #[.val (.int ((((((p0).toUInt32 >>> ((8 : Int32) &&& 31).toUInt32).toInt32)).toUInt32 >>> ((4 : Int32) &&& 31).toUInt32).toInt32)), .val (.int 17)]) rfl (XS.iloadN X0.here hx rfl (hb hby d5_69) rfl (XT.iconstV X0.here hx rfl 2 (hb hby d5_70) (by decide) (XS.iushr X0.here hx rfl (hb hby d5_71) rfl (XS.istoreN X0.here hx rfl (hb hby d5_72) rfl (l' := #[.val (.int (((((((((p0).toUInt32 >>> ((8 : Int32) &&& 31).toUInt32).toInt32)).toUInt32 >>> ((4 : Int32) &&& 31).toUInt32).toInt32)).toUInt32 >>> ((2 : Int32) &&& 31).toUInt32).toInt32)), .val (.int 17)]) rfl (XS.iloadN X0.here hx rfl (hb hby d5_73) rfl (XS.iloadN X0.here hx rfl (hb hby d5_74) rfl (XT.iconstV X0.here hx rfl 1 (hb hby d5_75) (by decide) (XS.iushr X0.here hx rfl (hb hby d5_76) rfl (XS.isub X0.here hx rfl (hb hby d5_77) rfl k))))))))))) ?_
            obtain ⟨fs, hr, hrun, hended, hW, hsame⟩ := X0.leave (v := (some (.int ((17 : Int32) - ((((((((((((p0).toUInt32 >>> ((8 : Int32) &&& 31).toUInt32).toInt32)).toUInt32 >>> ((4 : Int32) &&& 31).toUInt32).toInt32)).toUInt32 >>> ((2 : Int32) &&& 31).toUInt32).toInt32)).toUInt32 >>> ((1 : Int32) &&& 31).toUInt32).toInt32))))) (fun h => by rw [hret] at h; cases h)
            refine Wp.done (retI X0 hx hret (hb hby d5_78) hr) hrun hended ⟨_, _, rfl, ?_, ⟨_, rfl⟩, hW, hsame.mono (by decide) (by decide)⟩
            show QP _ h0 n0 _ s₁.heap _
            exact ⟨(by rw [f_inz, if_pos c1_1, if_pos c22_2, if_neg c37_3, if_neg c51_7, if_neg c63_9]), N0, e0⟩
    · refine Wp.back (U' := (s₁.setTop (mkF m 37 #[.val (.int (((p0).toUInt32 >>> ((16 : Int32) &&& 31).toUInt32).toInt32)), .val (.int 15)] [(.int 256), (.int (((p0).toUInt32 >>> ((16 : Int32) &&& 31).toUInt32).toInt32))]))) (fun t k => XS.icmpNo X0.here hx rfl (hb hby d5_22) rfl (flt c22_2).1 (XT.iincV X0.here hx rfl (-16 : Int32) (hb hby d5_25) (by decide) rfl (l' := #[.val (.int p0), .val (.int 15)]) rfl (XS.iloadN X0.here hx rfl (hb hby d5_28) rfl (XT.bipushV X0.here hx rfl 16 (hb hby d5_29) (by decide) (XS.iushr X0.here hx rfl (hb hby d5_31) rfl (XS.istoreN X0.here hx rfl (hb hby d5_32) rfl (l' := #[.val (.int (((p0).toUInt32 >>> ((16 : Int32) &&& 31).toUInt32).toInt32)), .val (.int 15)]) rfl (XS.iloadN X0.here hx rfl (hb hby d5_33) rfl (XT.sipushV X0.here hx rfl 256 (hb hby d5_34) (by decide) k)))))))) ?_
      by_cases c37_10 : (((p0).toUInt32 >>> ((16 : Int32) &&& 31).toUInt32).toInt32) < (256 : Int32)
      · refine Wp.back (U' := (s₁.setTop (mkF m 51 #[.val (.int (((p0).toUInt32 >>> ((16 : Int32) &&& 31).toUInt32).toInt32)), .val (.int 15)] [(.int 16), (.int (((p0).toUInt32 >>> ((16 : Int32) &&& 31).toUInt32).toInt32))]))) (fun t k => XS.icmpYes X0.here hx rfl (pc0 := 37) (pc' := 48) rfl (hb hby d5_37) rfl (tlt c37_10).1 (by decide) (by decide) (XS.iloadN X0.here hx rfl (hb hby d5_48) rfl (XT.bipushV X0.here hx rfl 16 (hb hby d5_49) (by decide) k))) ?_
        by_cases c51_11 : (((p0).toUInt32 >>> ((16 : Int32) &&& 31).toUInt32).toInt32) < (16 : Int32)
        · refine Wp.back (U' := (s₁.setTop (mkF m 63 #[.val (.int (((p0).toUInt32 >>> ((16 : Int32) &&& 31).toUInt32).toInt32)), .val (.int 15)] [(.int 4), (.int (((p0).toUInt32 >>> ((16 : Int32) &&& 31).toUInt32).toInt32))]))) (fun t k => XS.icmpYes X0.here hx rfl (pc0 := 51) (pc' := 61) rfl (hb hby d5_51) rfl (tlt c51_11).1 (by decide) (by decide) (XS.iloadN X0.here hx rfl (hb hby d5_61) rfl (XT.iconstV X0.here hx rfl 4 (hb hby d5_62) (by decide) k))) ?_
          by_cases c63_12 : (((p0).toUInt32 >>> ((16 : Int32) &&& 31).toUInt32).toInt32) < (4 : Int32)
          · refine Wp.back (U' := (s₁.setTop (mkF m 78 #[.val (.int (((p0).toUInt32 >>> ((16 : Int32) &&& 31).toUInt32).toInt32)), .val (.int 15)] [(.int ((15 : Int32) - ((((((p0).toUInt32 >>> ((16 : Int32) &&& 31).toUInt32).toInt32)).toUInt32 >>> ((1 : Int32) &&& 31).toUInt32).toInt32)))]))) (fun t k => XS.icmpYes X0.here hx rfl (pc0 := 63) (pc' := 73) rfl (hb hby d5_63) rfl (tlt c63_12).1 (by decide) (by decide) (XS.iloadN X0.here hx rfl (hb hby d5_73) rfl (XS.iloadN X0.here hx rfl (hb hby d5_74) rfl (XT.iconstV X0.here hx rfl 1 (hb hby d5_75) (by decide) (XS.iushr X0.here hx rfl (hb hby d5_76) rfl (XS.isub X0.here hx rfl (hb hby d5_77) rfl k)))))) ?_
            obtain ⟨fs, hr, hrun, hended, hW, hsame⟩ := X0.leave (v := (some (.int ((15 : Int32) - ((((((p0).toUInt32 >>> ((16 : Int32) &&& 31).toUInt32).toInt32)).toUInt32 >>> ((1 : Int32) &&& 31).toUInt32).toInt32))))) (fun h => by rw [hret] at h; cases h)
            refine Wp.done (retI X0 hx hret (hb hby d5_78) hr) hrun hended ⟨_, _, rfl, ?_, ⟨_, rfl⟩, hW, hsame.mono (by decide) (by decide)⟩
            show QP _ h0 n0 _ s₁.heap _
            exact ⟨(by rw [f_inz, if_pos c1_1, if_neg c22_2, if_pos c37_10, if_pos c51_11, if_pos c63_12]), N0, e0⟩
          · refine Wp.back (U' := (s₁.setTop (mkF m 78 #[.val (.int ((((((p0).toUInt32 >>> ((16 : Int32) &&& 31).toUInt32).toInt32)).toUInt32 >>> ((2 : Int32) &&& 31).toUInt32).toInt32)), .val (.int 13)] [(.int ((13 : Int32) - (((((((((p0).toUInt32 >>> ((16 : Int32) &&& 31).toUInt32).toInt32)).toUInt32 >>> ((2 : Int32) &&& 31).toUInt32).toInt32)).toUInt32 >>> ((1 : Int32) &&& 31).toUInt32).toInt32)))]))) (fun t k => XS.icmpNo X0.here hx rfl (hb hby d5_63) rfl (flt c63_12).1 (XT.iincV X0.here hx rfl (-2 : Int32) (hb hby d5_66) (by decide) rfl (l' := #[.val (.int (((p0).toUInt32 >>> ((16 : Int32) &&& 31).toUInt32).toInt32)), .val (.int 13)]) rfl (XS.iloadN X0.here hx rfl (hb hby d5_69) rfl (XT.iconstV X0.here hx rfl 2 (hb hby d5_70) (by decide) (XS.iushr X0.here hx rfl (hb hby d5_71) rfl (XS.istoreN X0.here hx rfl (hb hby d5_72) rfl (l' := #[.val (.int ((((((p0).toUInt32 >>> ((16 : Int32) &&& 31).toUInt32).toInt32)).toUInt32 >>> ((2 : Int32) &&& 31).toUInt32).toInt32)), .val (.int 13)]) rfl (XS.iloadN X0.here hx rfl (hb hby d5_73) rfl (XS.iloadN X0.here hx rfl (hb hby d5_74) rfl (XT.iconstV X0.here hx rfl 1 (hb hby d5_75) (by decide) (XS.iushr X0.here hx rfl (hb hby d5_76) rfl (XS.isub X0.here hx rfl (hb hby d5_77) rfl k))))))))))) ?_
            obtain ⟨fs, hr, hrun, hended, hW, hsame⟩ := X0.leave (v := (some (.int ((13 : Int32) - (((((((((p0).toUInt32 >>> ((16 : Int32) &&& 31).toUInt32).toInt32)).toUInt32 >>> ((2 : Int32) &&& 31).toUInt32).toInt32)).toUInt32 >>> ((1 : Int32) &&& 31).toUInt32).toInt32))))) (fun h => by rw [hret] at h; cases h)
            refine Wp.done (retI X0 hx hret (hb hby d5_78) hr) hrun hended ⟨_, _, rfl, ?_, ⟨_, rfl⟩, hW, hsame.mono (by decide) (by decide)⟩
            show QP _ h0 n0 _ s₁.heap _
            exact ⟨(by rw [f_inz, if_pos c1_1, if_neg c22_2, if_pos c37_10, if_pos c51_11, if_neg c63_12]), N0, e0⟩
        · refine Wp.back (U' := (s₁.setTop (mkF m 63 #[.val (.int ((((((p0).toUInt32 >>> ((16 : Int32) &&& 31).toUInt32).toInt32)).toUInt32 >>> ((4 : Int32) &&& 31).toUInt32).toInt32)), .val (.int 11)] [(.int 4), (.int ((((((p0).toUInt32 >>> ((16 : Int32) &&& 31).toUInt32).toInt32)).toUInt32 >>> ((4 : Int32) &&& 31).toUInt32).toInt32))]))) (fun t k => XS.icmpNo X0.here hx rfl (hb hby d5_51) rfl (flt c51_11).1 (XT.iincV X0.here hx rfl (-4 : Int32) (hb hby d5_54) (by decide) rfl (l' := #[.val (.int (((p0).toUInt32 >>> ((16 : Int32) &&& 31).toUInt32).toInt32)), .val (.int 11)]) rfl (XS.iloadN X0.here hx rfl (hb hby d5_57) rfl (XT.iconstV X0.here hx rfl 4 (hb hby d5_58) (by decide) (XS.iushr X0.here hx rfl (hb hby d5_59) rfl (XS.istoreN X0.here hx rfl (hb hby d5_60) rfl (l' := #[.val (.int ((((((p0).toUInt32 >>> ((16 : Int32) &&& 31).toUInt32).toInt32)).toUInt32 >>> ((4 : Int32) &&& 31).toUInt32).toInt32)), .val (.int 11)]) rfl (XS.iloadN X0.here hx rfl (hb hby d5_61) rfl (XT.iconstV X0.here hx rfl 4 (hb hby d5_62) (by decide) k)))))))) ?_
          by_cases c63_13 : ((((((p0).toUInt32 >>> ((16 : Int32) &&& 31).toUInt32).toInt32)).toUInt32 >>> ((4 : Int32) &&& 31).toUInt32).toInt32) < (4 : Int32)
          · refine Wp.back (U' := (s₁.setTop (mkF m 78 #[.val (.int ((((((p0).toUInt32 >>> ((16 : Int32) &&& 31).toUInt32).toInt32)).toUInt32 >>> ((4 : Int32) &&& 31).toUInt32).toInt32)), .val (.int 11)] [(.int ((11 : Int32) - (((((((((p0).toUInt32 >>> ((16 : Int32) &&& 31).toUInt32).toInt32)).toUInt32 >>> ((4 : Int32) &&& 31).toUInt32).toInt32)).toUInt32 >>> ((1 : Int32) &&& 31).toUInt32).toInt32)))]))) (fun t k => XS.icmpYes X0.here hx rfl (pc0 := 63) (pc' := 73) rfl (hb hby d5_63) rfl (tlt c63_13).1 (by decide) (by decide) (XS.iloadN X0.here hx rfl (hb hby d5_73) rfl (XS.iloadN X0.here hx rfl (hb hby d5_74) rfl (XT.iconstV X0.here hx rfl 1 (hb hby d5_75) (by decide) (XS.iushr X0.here hx rfl (hb hby d5_76) rfl (XS.isub X0.here hx rfl (hb hby d5_77) rfl k)))))) ?_
            obtain ⟨fs, hr, hrun, hended, hW, hsame⟩ := X0.leave (v := (some (.int ((11 : Int32) - (((((((((p0).toUInt32 >>> ((16 : Int32) &&& 31).toUInt32).toInt32)).toUInt32 >>> ((4 : Int32) &&& 31).toUInt32).toInt32)).toUInt32 >>> ((1 : Int32) &&& 31).toUInt32).toInt32))))) (fun h => by rw [hret] at h; cases h)
            refine Wp.done (retI X0 hx hret (hb hby d5_78) hr) hrun hended ⟨_, _, rfl, ?_, ⟨_, rfl⟩, hW, hsame.mono (by decide) (by decide)⟩
            show QP _ h0 n0 _ s₁.heap _
            exact ⟨(by rw [f_inz, if_pos c1_1, if_neg c22_2, if_pos c37_10, if_neg c51_11, if_pos c63_13]), N0, e0⟩
          · refine Wp.back (U' := (s₁.setTop (mkF m 78 #[.val (.int (((((((((p0).toUInt32 >>> ((16 : Int32) &&& 31).toUInt32).toInt32)).toUInt32 >>> ((4 : Int32) &&& 31).toUInt32).toInt32)).toUInt32 >>> ((2 : Int32) &&& 31).toUInt32).toInt32)), .val (.int 9)] [(.int ((9 : Int32) - ((((((((((((p0).toUInt32 >>> ((16 : Int32) &&& 31).toUInt32).toInt32)).toUInt32 >>> ((4 : Int32) &&& 31).toUInt32).toInt32)).toUInt32 >>> ((2 : Int32) &&& 31).toUInt32).toInt32)).toUInt32 >>> ((1 : Int32) &&& 31).toUInt32).toInt32)))]))) (fun t k => XS.icmpNo X0.here hx rfl (hb hby d5_63) rfl (flt c63_13).1 (XT.iincV X0.here hx rfl (-2 : Int32) (hb hby d5_66) (by decide) rfl (l' := #[.val (.int ((((((p0).toUInt32 >>> ((16 : Int32) &&& 31).toUInt32).toInt32)).toUInt32 >>> ((4 : Int32) &&& 31).toUInt32).toInt32)), .val (.int 9)]) rfl (XS.iloadN X0.here hx rfl (hb hby d5_69) rfl (XT.iconstV X0.here hx rfl 2 (hb hby d5_70) (by decide) (XS.iushr X0.here hx rfl (hb hby d5_71) rfl (XS.istoreN X0.here hx rfl (hb hby d5_72) rfl (l' := #[.val (.int (((((((((p0).toUInt32 >>> ((16 : Int32) &&& 31).toUInt32).toInt32)).toUInt32 >>> ((4 : Int32) &&& 31).toUInt32).toInt32)).toUInt32 >>> ((2 : Int32) &&& 31).toUInt32).toInt32)), .val (.int 9)]) rfl (XS.iloadN X0.here hx rfl (hb hby d5_73) rfl (XS.iloadN X0.here hx rfl (hb hby d5_74) rfl (XT.iconstV X0.here hx rfl 1 (hb hby d5_75) (by decide) (XS.iushr X0.here hx rfl (hb hby d5_76) rfl (XS.isub X0.here hx rfl (hb hby d5_77) rfl k))))))))))) ?_
            obtain ⟨fs, hr, hrun, hended, hW, hsame⟩ := X0.leave (v := (some (.int ((9 : Int32) - ((((((((((((p0).toUInt32 >>> ((16 : Int32) &&& 31).toUInt32).toInt32)).toUInt32 >>> ((4 : Int32) &&& 31).toUInt32).toInt32)).toUInt32 >>> ((2 : Int32) &&& 31).toUInt32).toInt32)).toUInt32 >>> ((1 : Int32) &&& 31).toUInt32).toInt32))))) (fun h => by rw [hret] at h; cases h)
            refine Wp.done (retI X0 hx hret (hb hby d5_78) hr) hrun hended ⟨_, _, rfl, ?_, ⟨_, rfl⟩, hW, hsame.mono (by decide) (by decide)⟩
            show QP _ h0 n0 _ s₁.heap _
            exact ⟨(by rw [f_inz, if_pos c1_1, if_neg c22_2, if_pos c37_10, if_neg c51_11, if_neg c63_13]), N0, e0⟩
      · refine Wp.back (U' := (s₁.setTop (mkF m 51 #[.val (.int ((((((p0).toUInt32 >>> ((16 : Int32) &&& 31).toUInt32).toInt32)).toUInt32 >>> ((8 : Int32) &&& 31).toUInt32).toInt32)), .val (.int 7)] [(.int 16), (.int ((((((p0).toUInt32 >>> ((16 : Int32) &&& 31).toUInt32).toInt32)).toUInt32 >>> ((8 : Int32) &&& 31).toUInt32).toInt32))]))) (fun t k => XS.icmpNo X0.here hx rfl (hb hby d5_37) rfl (flt c37_10).1 (XT.iincV X0.here hx rfl (-8 : Int32) (hb hby d5_40) (by decide) rfl (l' := #[.val (.int (((p0).toUInt32 >>> ((16 : Int32) &&& 31).toUInt32).toInt32)), .val (.int 7)]) rfl (XS.iloadN X0.here hx rfl (hb hby d5_43) rfl (XT.bipushV X0.here hx rfl 8 (hb hby d5_44) (by decide) (XS.iushr X0.here hx rfl (hb hby d5_46) rfl (XS.istoreN X0.here hx rfl (hb hby d5_47) rfl (l' := #[.val (.int ((((((p0).toUInt32 >>> ((16 : Int32) &&& 31).toUInt32).toInt32)).toUInt32 >>> ((8 : Int32) &&& 31).toUInt32).toInt32)), .val (.int 7)]) rfl (XS.iloadN X0.here hx rfl (hb hby d5_48) rfl (XT.bipushV X0.here hx rfl 16 (hb hby d5_49) (by decide) k)))))))) ?_
        by_cases c51_14 : ((((((p0).toUInt32 >>> ((16 : Int32) &&& 31).toUInt32).toInt32)).toUInt32 >>> ((8 : Int32) &&& 31).toUInt32).toInt32) < (16 : Int32)
        · refine Wp.back (U' := (s₁.setTop (mkF m 63 #[.val (.int ((((((p0).toUInt32 >>> ((16 : Int32) &&& 31).toUInt32).toInt32)).toUInt32 >>> ((8 : Int32) &&& 31).toUInt32).toInt32)), .val (.int 7)] [(.int 4), (.int ((((((p0).toUInt32 >>> ((16 : Int32) &&& 31).toUInt32).toInt32)).toUInt32 >>> ((8 : Int32) &&& 31).toUInt32).toInt32))]))) (fun t k => XS.icmpYes X0.here hx rfl (pc0 := 51) (pc' := 61) rfl (hb hby d5_51) rfl (tlt c51_14).1 (by decide) (by decide) (XS.iloadN X0.here hx rfl (hb hby d5_61) rfl (XT.iconstV X0.here hx rfl 4 (hb hby d5_62) (by decide) k))) ?_
          by_cases c63_15 : ((((((p0).toUInt32 >>> ((16 : Int32) &&& 31).toUInt32).toInt32)).toUInt32 >>> ((8 : Int32) &&& 31).toUInt32).toInt32) < (4 : Int32)
          · refine Wp.back (U' := (s₁.setTop (mkF m 78 #[.val (.int ((((((p0).toUInt32 >>> ((16 : Int32) &&& 31).toUInt32).toInt32)).toUInt32 >>> ((8 : Int32) &&& 31).toUInt32).toInt32)), .val (.int 7)] [(.int ((7 : Int32) - (((((((((p0).toUInt32 >>> ((16 : Int32) &&& 31).toUInt32).toInt32)).toUInt32 >>> ((8 : Int32) &&& 31).toUInt32).toInt32)).toUInt32 >>> ((1 : Int32) &&& 31).toUInt32).toInt32)))]))) (fun t k => XS.icmpYes X0.here hx rfl (pc0 := 63) (pc' := 73) rfl (hb hby d5_63) rfl (tlt c63_15).1 (by decide) (by decide) (XS.iloadN X0.here hx rfl (hb hby d5_73) rfl (XS.iloadN X0.here hx rfl (hb hby d5_74) rfl (XT.iconstV X0.here hx rfl 1 (hb hby d5_75) (by decide) (XS.iushr X0.here hx rfl (hb hby d5_76) rfl (XS.isub X0.here hx rfl (hb hby d5_77) rfl k)))))) ?_
            obtain ⟨fs, hr, hrun, hended, hW, hsame⟩ := X0.leave (v := (some (.int ((7 : Int32) - (((((((((p0).toUInt32 >>> ((16 : Int32) &&& 31).toUInt32).toInt32)).toUInt32 >>> ((8 : Int32) &&& 31).toUInt32).toInt32)).toUInt32 >>> ((1 : Int32) &&& 31).toUInt32).toInt32))))) (fun h => by rw [hret] at h; cases h)
            refine Wp.done (retI X0 hx hret (hb hby d5_78) hr) hrun hended ⟨_, _, rfl, ?_, ⟨_, rfl⟩, hW, hsame.mono (by decide) (by decide)⟩
            show QP _ h0 n0 _ s₁.heap _
            exact ⟨(by rw [f_inz, if_pos c1_1, if_neg c22_2, if_neg c37_10, if_pos c51_14, if_pos c63_15]), N0, e0⟩
          · refine Wp.back (U' := (s₁.setTop (mkF m 78 #[.val (.int (((((((((p0).toUInt32 >>> ((16 : Int32) &&& 31).toUInt32).toInt32)).toUInt32 >>> ((8 : Int32) &&& 31).toUInt32).toInt32)).toUInt32 >>> ((2 : Int32) &&& 31).toUInt32).toInt32)), .val (.int 5)] [(.int ((5 : Int32) - ((((((((((((p0).toUInt32 >>> ((16 : Int32) &&& 31).toUInt32).toInt32)).toUInt32 >>> ((8 : Int32) &&& 31).toUInt32).toInt32)).toUInt32 >>> ((2 : Int32) &&& 31).toUInt32).toInt32)).toUInt32 >>> ((1 : Int32) &&& 31).toUInt32).toInt32)))]))) (fun t k => XS.icmpNo X0.here hx rfl (hb hby d5_63) rfl (flt c63_15).1 (XT.iincV X0.here hx rfl (-2 : Int32) (hb hby d5_66) (by decide) rfl (l' := #[.val (.int ((((((p0).toUInt32 >>> ((16 : Int32) &&& 31).toUInt32).toInt32)).toUInt32 >>> ((8 : Int32) &&& 31).toUInt32).toInt32)), .val (.int 5)]) rfl (XS.iloadN X0.here hx rfl (hb hby d5_69) rfl (XT.iconstV X0.here hx rfl 2 (hb hby d5_70) (by decide) (XS.iushr X0.here hx rfl (hb hby d5_71) rfl (XS.istoreN X0.here hx rfl (hb hby d5_72) rfl (l' := #[.val (.int (((((((((p0).toUInt32 >>> ((16 : Int32) &&& 31).toUInt32).toInt32)).toUInt32 >>> ((8 : Int32) &&& 31).toUInt32).toInt32)).toUInt32 >>> ((2 : Int32) &&& 31).toUInt32).toInt32)), .val (.int 5)]) rfl (XS.iloadN X0.here hx rfl (hb hby d5_73) rfl (XS.iloadN X0.here hx rfl (hb hby d5_74) rfl (XT.iconstV X0.here hx rfl 1 (hb hby d5_75) (by decide) (XS.iushr X0.here hx rfl (hb hby d5_76) rfl (XS.isub X0.here hx rfl (hb hby d5_77) rfl k))))))))))) ?_
            obtain ⟨fs, hr, hrun, hended, hW, hsame⟩ := X0.leave (v := (some (.int ((5 : Int32) - ((((((((((((p0).toUInt32 >>> ((16 : Int32) &&& 31).toUInt32).toInt32)).toUInt32 >>> ((8 : Int32) &&& 31).toUInt32).toInt32)).toUInt32 >>> ((2 : Int32) &&& 31).toUInt32).toInt32)).toUInt32 >>> ((1 : Int32) &&& 31).toUInt32).toInt32))))) (fun h => by rw [hret] at h; cases h)
            refine Wp.done (retI X0 hx hret (hb hby d5_78) hr) hrun hended ⟨_, _, rfl, ?_, ⟨_, rfl⟩, hW, hsame.mono (by decide) (by decide)⟩
            show QP _ h0 n0 _ s₁.heap _
            exact ⟨(by rw [f_inz, if_pos c1_1, if_neg c22_2, if_neg c37_10, if_pos c51_14, if_neg c63_15]), N0, e0⟩
        · refine Wp.back (U' := (s₁.setTop (mkF m 63 #[.val (.int (((((((((p0).toUInt32 >>> ((16 : Int32) &&& 31).toUInt32).toInt32)).toUInt32 >>> ((8 : Int32) &&& 31).toUInt32).toInt32)).toUInt32 >>> ((4 : Int32) &&& 31).toUInt32).toInt32)), .val (.int 3)] [(.int 4), (.int (((((((((p0).toUInt32 >>> ((16 : Int32) &&& 31).toUInt32).toInt32)).toUInt32 >>> ((8 : Int32) &&& 31).toUInt32).toInt32)).toUInt32 >>> ((4 : Int32) &&& 31).toUInt32).toInt32))]))) (fun t k => XS.icmpNo X0.here hx rfl (hb hby d5_51) rfl (flt c51_14).1 (XT.iincV X0.here hx rfl (-4 : Int32) (hb hby d5_54) (by decide) rfl (l' := #[.val (.int ((((((p0).toUInt32 >>> ((16 : Int32) &&& 31).toUInt32).toInt32)).toUInt32 >>> ((8 : Int32) &&& 31).toUInt32).toInt32)), .val (.int 3)]) rfl (XS.iloadN X0.here hx rfl (hb hby d5_57) rfl (XT.iconstV X0.here hx rfl 4 (hb hby d5_58) (by decide) (XS.iushr X0.here hx rfl (hb hby d5_59) rfl (XS.istoreN X0.here hx rfl (hb hby d5_60) rfl (l' := #[.val (.int (((((((((p0).toUInt32 >>> ((16 : Int32) &&& 31).toUInt32).toInt32)).toUInt32 >>> ((8 : Int32) &&& 31).toUInt32).toInt32)).toUInt32 >>> ((4 : Int32) &&& 31).toUInt32).toInt32)), .val (.int 3)]) rfl (XS.iloadN X0.here hx rfl (hb hby d5_61) rfl (XT.iconstV X0.here hx rfl 4 (hb hby d5_62) (by decide) k)))))))) ?_
          by_cases c63_16 : (((((((((p0).toUInt32 >>> ((16 : Int32) &&& 31).toUInt32).toInt32)).toUInt32 >>> ((8 : Int32) &&& 31).toUInt32).toInt32)).toUInt32 >>> ((4 : Int32) &&& 31).toUInt32).toInt32) < (4 : Int32)
          · refine Wp.back (U' := (s₁.setTop (mkF m 78 #[.val (.int (((((((((p0).toUInt32 >>> ((16 : Int32) &&& 31).toUInt32).toInt32)).toUInt32 >>> ((8 : Int32) &&& 31).toUInt32).toInt32)).toUInt32 >>> ((4 : Int32) &&& 31).toUInt32).toInt32)), .val (.int 3)] [(.int ((3 : Int32) - ((((((((((((p0).toUInt32 >>> ((16 : Int32) &&& 31).toUInt32).toInt32)).toUInt32 >>> ((8 : Int32) &&& 31).toUInt32).toInt32)).toUInt32 >>> ((4 : Int32) &&& 31).toUInt32).toInt32)).toUInt32 >>> ((1 : Int32) &&& 31).toUInt32).toInt32)))]))) (fun t k => XS.icmpYes X0.here hx rfl (pc0 := 63) (pc' := 73) rfl (hb hby d5_63) rfl (tlt c63_16).1 (by decide) (by decide) (XS.iloadN X0.here hx rfl (hb hby d5_73) rfl (XS.iloadN X0.here hx rfl (hb hby d5_74) rfl (XT.iconstV X0.here hx rfl 1 (hb hby d5_75) (by decide) (XS.iushr X0.here hx rfl (hb hby d5_76) rfl (XS.isub X0.here hx rfl (hb hby d5_77) rfl k)))))) ?_
            obtain ⟨fs, hr, hrun, hended, hW, hsame⟩ := X0.leave (v := (some (.int ((3 : Int32) - ((((((((((((p0).toUInt32 >>> ((16 : Int32) &&& 31).toUInt32).toInt32)).toUInt32 >>> ((8 : Int32) &&& 31).toUInt32).toInt32)).toUInt32 >>> ((4 : Int32) &&& 31).toUInt32).toInt32)).toUInt32 >>> ((1 : Int32) &&& 31).toUInt32).toInt32))))) (fun h => by rw [hret] at h; cases h)
            refine Wp.done (retI X0 hx hret (hb hby d5_78) hr) hrun hended ⟨_, _, rfl, ?_, ⟨_, rfl⟩, hW, hsame.mono (by decide) (by decide)⟩
            show QP _ h0 n0 _ s₁.heap _
            exact ⟨(by rw [f_inz, if_pos c1_1, if_neg c22_2, if_neg c37_10, if_neg c51_14, if_pos c63_16]), N0, e0⟩
          · refine Wp.back (U' := (s₁.setTop (mkF m 78 #[.val (.int ((((((((((((p0).toUInt32 >>> ((16 : Int32) &&& 31).toUInt32).toInt32)).toUInt32 >>> ((8 : Int32) &&& 31).toUInt32).toInt32)).toUInt32 >>> ((4 : Int32) &&& 31).toUInt32).toInt32)).toUInt32 >>> ((2 : Int32) &&& 31).toUInt32).toInt32)), .val (.int 1)] [(.int ((1 : Int32) - (((((((((((((((p0).toUInt32 >>> ((16 : Int32) &&& 31).toUInt32).toInt32)).toUInt32 >>> ((8 : Int32) &&& 31).toUInt32).toInt32)).toUInt32 >>> ((4 : Int32) &&& 31).toUInt32).toInt32)).toUInt32 >>> ((2 : Int32) &&& 31).toUInt32).toInt32)).toUInt32 >>> ((1 : Int32) &&& 31).toUInt32).toInt32)))]))) (fun t k => XS.icmpNo X0.here hx rfl (hb hby d5_63) rfl (flt c63_16).1 (XT.iincV X0.here hx rfl (-2 : Int32) (hb hby d5_66) (by decide) rfl (l' := #[.val (.int (((((((((p0).toUInt32 >>> ((16 : Int32) &&& 31).toUInt32).toInt32)).toUInt32 >>> ((8 : Int32) &&& 31).toUInt32).toInt32)).toUInt32 >>> ((4 : Int32) &&& 31).toUInt32).toInt32)), .val (.int 1)]) rfl (XS.iloadN X0.here hx rfl (hb hby d5_69) rfl (XT.iconstV X0.here hx rfl 2 (hb hby d5_70) (by decide) (XS.iushr X0.here hx rfl (hb hby d5_71) rfl (XS.istoreN X0.here hx rfl (hb hby d5_72) rfl (l' := #[.val (.int ((((((((((((p0).toUInt32 >>> ((16 : Int32) &&& 31).toUInt32).toInt32)).toUInt32 >>> ((8 : Int32) &&& 31).toUInt32).toInt32)).toUInt32 >>> ((4 : Int32) &&& 31).toUInt32).toInt32)).toUInt32 >>> ((2 : Int32) &&& 31).toUInt32).toInt32)), .val (.int 1)]) rfl (XS.iloadN X0.here hx rfl (hb hby d5_73) rfl (XS.iloadN X0.here hx rfl (hb hby d5_74) rfl (XT.iconstV X0.here hx rfl 1 (hb hby d5_75) (by decide) (XS.iushr X0.here hx rfl (hb hby d5_76) rfl (XS.isub X0.here hx rfl (hb hby d5_77) rfl k))))))))))) ?_
            obtain ⟨fs, hr, hrun, hended, hW, hsame⟩ := X0.leave (v := (some (.int ((1 : Int32) - (((((((((((((((p0).toUInt32 >>> ((16 : Int32) &&& 31).toUInt32).toInt32)).toUInt32 >>> ((8 : Int32) &&& 31).toUInt32).toInt32)).toUInt32 >>> ((4 : Int32) &&& 31).toUInt32).toInt32)).toUInt32 >>> ((2 : Int32) &&& 31).toUInt32).toInt32)).toUInt32 >>> ((1 : Int32) &&& 31).toUInt32).toInt32))))) (fun h => by rw [hret] at h; cases h)
            refine Wp.done (retI X0 hx hret (hb hby d5_78) hr) hrun hended ⟨_, _, rfl, ?_, ⟨_, rfl⟩, hW, hsame.mono (by decide) (by decide)⟩
            show QP _ h0 n0 _ s₁.heap _
            exact ⟨(by rw [f_inz, if_pos c1_1, if_neg c22_2, if_neg c37_10, if_neg c51_14, if_neg c63_16]), N0, e0⟩
  · refine Wp.back (U' := (s₁.setTop (mkF m 5 #[.val (.int p0), .unset] [(.int p0)]))) (fun t k => XS.ifNo X0.here hx rfl (hb hby d5_1) rfl ((if0 _ _).trans (flt c1_1).2.2.1) (XS.iloadN X0.here hx rfl (hb hby d5_4) rfl k)) ?_
    by_cases c5_17 : p0 = (0 : Int32)
    · refine Wp.back (U' := (s₁.setTop (mkF m 14 #[.val (.int p0), .unset] [(.int 32)]))) (fun t k => XS.ifNo X0.here hx rfl (hb hby d5_5) rfl ((if0 _ _).trans (teq c5_17).2) (XT.bipushV X0.here hx rfl 32 (hb hby d5_8) (by decide) (XS.goto X0.here hx rfl (pc0 := 10) (pc' := 14) rfl (hb hby d5_10) (by decide) (by decide) k))) ?_
      obtain ⟨fs, hr, hrun, hended, hW, hsame⟩ := X0.leave (v := (some (.int 32))) (fun h => by rw [hret] at h; cases h)
      refine Wp.done (retI X0 hx hret (hb hby d5_14) hr) hrun hended ⟨_, _, rfl, ?_, ⟨_, rfl⟩, hW, hsame.mono (by decide) (by decide)⟩
      show QP _ h0 n0 _ s₁.heap _
      exact ⟨(by rw [f_inz, if_neg c1_1, if_pos c5_17]), N0, e0⟩
    · refine Wp.back (U' := (s₁.setTop (mkF m 14 #[.val (.int p0), .unset] [(.int 0)]))) (fun t k => XS.ifYes X0.here hx rfl (pc0 := 5) (pc' := 13) rfl (hb hby d5_5) rfl ((if0 _ _).trans (feq c5_17).2) (by decide) (by decide) (XT.iconstV X0.here hx rfl 0 (hb hby d5_13) (by decide) k)) ?_
      obtain ⟨fs, hr, hrun, hended, hW, hsame⟩ := X0.leave (v := (some (.int 0))) (fun h => by rw [hret] at h; cases h)
      refine Wp.done (retI X0 hx hret (hb hby d5_14) hr) hrun hended ⟨_, _, rfl, ?_, ⟨_, rfl⟩, hW, hsame.mono (by decide) (by decide)⟩
      show QP _ h0 n0 _ s₁.heap _
      exact ⟨(by rw [f_inz, if_neg c1_1, if_neg c5_17]), N0, e0⟩
def f_lnz (q0 : Int64) : Int32 := (if ((((q0).toUInt64 >>> ((32 : Int32) &&& 0x3f).toInt64.toUInt64).toInt64)).toInt32 = (0 : Int32) then ((32 : Int32) + (f_inz (q0).toInt32)) else (f_inz ((((q0).toUInt64 >>> ((32 : Int32) &&& 0x3f).toInt64.toUInt64).toInt64)).toInt32))
theorem d4_0 : decode jdk_35_method_48_code 0 = .ok (.lload_n 0, 1) := by decide +kernel
theorem d4_1 : decode jdk_35_method_48_code 1 = .ok (.bipush 32, 2) := by decide +kernel
theorem d4_3 : decode jdk_35_method_48_code 3 = .ok (.lushr, 1) := by decide +kernel
theorem d4_4 : decode jdk_35_method_48_code 4 = .ok (.l2i, 1) := by decide +kernel
theorem d4_5 : decode jdk_35_method_48_code 5 = .ok (.istore_n 2, 1) := by decide +kernel
theorem d4_6 : decode jdk_35_method_48_code 6 = .ok (.iload_n 2, 1) := by decide +kernel
theorem d4_7 : decode jdk_35_method_48_code 7 = .ok (.ifCond .ne 14, 3) := by decide +kernel
theorem d4_10 : decode jdk_35_method_48_code 10 = .ok (.bipush 32, 2) := by decide +kernel
theorem d4_12 : decode jdk_35_method_48_code 12 = .ok (.lload_n 0, 1) := by decide +kernel
theorem d4_13 : decode jdk_35_method_48_code 13 = .ok (.l2i, 1) := by decide +kernel
theorem d4_14 : decode jdk_35_method_48_code 14 = .ok (.invokestatic 308, 3) := by decide +kernel
theorem d4_17 : decode jdk_35_method_48_code 17 = .ok (.iadd, 1) := by decide +kernel
theorem d4_18 : decode jdk_35_method_48_code 18 = .ok (.goto 7, 3) := by decide +kernel
theorem d4_21 : decode jdk_35_method_48_code 21 = .ok (.iload_n 2, 1) := by decide +kernel
theorem d4_22 : decode jdk_35_method_48_code 22 = .ok (.invokestatic 308, 3) := by decide +kernel
theorem d4_25 : decode jdk_35_method_48_code 25 = .ok (.ireturn, 1) := by decide +kernel
theorem pd_0 : parseMethodDescriptor "(I)I" = some ⟨[.int], some .int⟩ := by decide +kernel
theorem pn4 : plainName "java/lang/Long" = true := by first | (simp [plainName, overriddenIn]; done) | decide +kernel
theorem ef4_J (m : MethodId) (x0 : Int64) : entryFrame m #[(.long x0)] 3 = mkF m 0 #[.val (.long x0), .second, .unset] [] := by first | (simp [entryFrame, mkF, argsToLocals, Value.category]; done) | rfl
set_option maxRecDepth 65536 in
set_option maxHeartbeats 40000000 in
theorem rm_f_lnz (l : Launch) (Z : State) (a0 : Array Value) (hw : ∀ d ∈ tables_1, d.before a0 Z = true) (ws : List Jvm.Cond) (q0 : Int64) (h0 : Heap) (n0 : Nat) (Z0 : n0 ≤ h0.size)  :
    Met l Z Y1 jdk_35_method_48_code 3 (some .int) ws ({ frames := 1, cells := 0, slots := 0, locals := 14 } : Room) #[(.long q0)] h0 (QP (some (.int (f_lnz q0))) h0 n0) := by
  refine own_body (plainFor_of_name pn4) ?_
  intro p e s m below meth c s₁ hx hby hret hlk hml hZ hown hnm X0 e0
  have N0 := Fr.nil n0
  refine Wp.back (U' := (s₁.setTop (mkF m 0 #[.val (.long q0), .second, .unset] []))) (fun t k => castTop (ef4_J m q0) k) ?_
  refine Wp.back (U' := (s₁.setTop (mkF m 7 #[.val (.long q0), .second, .val (.int ((((q0).toUInt64 >>> ((32 : Int32) &&& 0x3f).toInt64.toUInt64).toInt64)).toInt32)] [(.int ((((q0).toUInt64 >>> ((32 : Int32) &&& 0x3f).toInt64.toUInt64).toInt64)).toInt32)]))) (fun t k => XS.lloadN X0.here hx rfl (hb hby d4_0) rfl (XT.bipushV X0.here hx rfl 32 (hb hby d4_1) (by decide) (XS.lushr X0.here hx rfl (hb hby d4_3) rfl (XS.l2i X0.here hx rfl (hb hby d4_4) rfl (XS.istoreN X0.here hx rfl (hb hby d4_5) rfl (l' := #[.val (.long q0), .second, .val (.int ((((q0).toUInt64 >>> ((32 : Int32) &&& 0x3f).toInt64.toUInt64).toInt64)).toInt32)]) rfl (XS.iloadN X0.here hx rfl (hb hby d4_6) rfl k)))))) ?_
  by_cases c7_1 : ((((q0).toUInt64 >>> ((32 : Int32) &&& 0x3f).toInt64.toUInt64).toInt64)).toInt32 = (0 : Int32)
  · refine Wp.back (U' := (s₁.setTop (mkF m 14 #[.val (.long q0), .second, .val (.int ((((q0).toUInt64 >>> ((32 : Int32) &&& 0x3f).toInt64.toUInt64).toInt64)).toInt32)] [(.int (q0).toInt32), (.int 32)]))) (fun t k => XS.ifNo X0.here hx rfl (hb hby d4_7) rfl ((if0 _ _).trans (teq c7_1).2) (XT.bipushV X0.here hx rfl 32 (hb hby d4_10) (by decide) (XS.lloadN X0.here hx rfl (hb hby d4_12) rfl (XS.l2i X0.here hx rfl (hb hby d4_13) rfl k)))) ?_
    obtain ⟨_, _, ⟨T2, L2, k2, n2⟩, -, X2, ⟨Lc2, hQ2, l2, y2, z2⟩, st2⟩ := Jvm.LawKit.callS X0 hx (y := Y0) hown (mvT hZ (ow hw 25 rfl)) (mvT hZ (ow hw 26 rfl)) (mvT hZ (ow hw 27 rfl)) (mvT hZ (ow hw 28 rfl)) (by decide) (backOf (W := 1) (rm_f_inz l Z a0 hw [] (q0).toInt32 h0 n0 Z0 ) hZ (ow hw 28 rfl) (ow hw 27 rfl) (by decide) (by decide)) (g := (mkF m 14 #[.val (.long q0), .second, .val (.int ((((q0).toUInt64 >>> ((32 : Int32) &&& 0x3f).toInt64.toUInt64).toInt64)).toInt32)] [(.int (q0).toInt32), (.int 32)])) rfl (by rw [hml]; rfl) (argsL := [(.int (q0).toInt32)]) (rest := [(.int 32)]) (lenOf pd_0 rfl) rfl (Nat.le_of_eq rfl) (hb hby d4_14) (fun _ _ => ⟨rfl, e0, (by decide : 0 + 0 ≤ _), (by decide : 0 + 0 ≤ _)⟩)
    dsimp only [Pt.U, Pt.locs, Pt.cells, Pt.slots] at X2 l2 y2 z2 st2 hQ2
    subst l2 y2 z2
    obtain ⟨rfl, N2q, e2⟩ := hQ2
    have N2 := Fr.app N0 N2q
    refine Wp.back (U' := (T2.setTop (mkF m 17 #[.val (.long q0), .second, .val (.int ((((q0).toUInt64 >>> ((32 : Int32) &&& 0x3f).toInt64.toUInt64).toInt64)).toInt32)] [(.int (f_inz (q0).toInt32)), (.int 32)]))) st2 ?_
    refine Wp.back (U' := (T2.setTop (mkF m 25 #[.val (.long q0), .second, .val (.int ((((q0).toUInt64 >>> ((32 : Int32) &&& 0x3f).toInt64.toUInt64).toInt64)).toInt32)] [(.int ((32 : Int32) + (f_inz (q0).toInt32)))]))) (fun t k => XS.iadd X2.here hx rfl (hb hby d4_17) rfl (XS.goto X2.here hx rfl (pc0 := 18) (pc' := 25) rfl (hb hby d4_18) (by decide) (by decide) k)) ?_
    obtain ⟨fs, hr, hrun, hended, hW, hsame⟩ := X2.leave (v := (some (.int ((32 : Int32) + (f_inz (q0).toInt32))))) (fun h => by rw [hret] at h; cases h)
    refine Wp.done (retI X2 hx hret (hb hby d4_25) hr) hrun hended ⟨_, _, rfl, ?_, ⟨_, rfl⟩, hW, hsame.mono (by decide) (by decide)⟩
    show QP _ h0 n0 _ T2.heap _
    exact ⟨(by rw [f_lnz, if_pos c7_1]), N2, e2⟩
  · refine Wp.back (U' := (s₁.setTop (mkF m 22 #[.val (.long q0), .second, .val (.int ((((q0).toUInt64 >>> ((32 : Int32) &&& 0x3f).toInt64.toUInt64).toInt64)).toInt32)] [(.int ((((q0).toUInt64 >>> ((32 : Int32) &&& 0x3f).toInt64.toUInt64).toInt64)).toInt32)]))) (fun t k => XS.ifYes X0.here hx rfl (pc0 := 7) (pc' := 21) rfl (hb hby d4_7) rfl ((if0 _ _).trans (feq c7_1).2) (by decide) (by decide) (XS.iloadN X0.here hx rfl (hb hby d4_21) rfl k)) ?_
    obtain ⟨_, _, ⟨T3, L3, k3, n3⟩, -, X3, ⟨Lc3, hQ3, l3, y3, z3⟩, st3⟩ := Jvm.LawKit.callS X0 hx (y := Y0) hown (mvT hZ (ow hw 25 rfl)) (mvT hZ (ow hw 26 rfl)) (mvT hZ (ow hw 27 rfl)) (mvT hZ (ow hw 28 rfl)) (by decide) (backOf (W := 0) (rm_f_inz l Z a0 hw [] ((((q0).toUInt64 >>> ((32 : Int32) &&& 0x3f).toInt64.toUInt64).toInt64)).toInt32 h0 n0 Z0 ) hZ (ow hw 28 rfl) (ow hw 27 rfl) (by decide) (by decide)) (g := (mkF m 22 #[.val (.long q0), .second, .val (.int ((((q0).toUInt64 >>> ((32 : Int32) &&& 0x3f).toInt64.toUInt64).toInt64)).toInt32)] [(.int ((((q0).toUInt64 >>> ((32 : Int32) &&& 0x3f).toInt64.toUInt64).toInt64)).toInt32)])) rfl (by rw [hml]; rfl) (argsL := [(.int ((((q0).toUInt64 >>> ((32 : Int32) &&& 0x3f).toInt64.toUInt64).toInt64)).toInt32)]) (rest := []) (lenOf pd_0 rfl) rfl (Nat.le_of_eq rfl) (hb hby d4_22) (fun _ _ => ⟨rfl, e0, (by decide : 0 + 0 ≤ _), (by decide : 0 + 0 ≤ _)⟩)
    dsimp only [Pt.U, Pt.locs, Pt.cells, Pt.slots] at X3 l3 y3 z3 st3 hQ3
    subst l3 y3 z3
    obtain ⟨rfl, N3q, e3⟩ := hQ3
    have N3 := Fr.app N0 N3q
    refine Wp.back (U' := (T3.setTop (mkF m 25 #[.val (.long q0), .second, .val (.int ((((q0).toUInt64 >>> ((32 : Int32) &&& 0x3f).toInt64.toUInt64).toInt64)).toInt32)] [(.int (f_inz ((((q0).toUInt64 >>> ((32 : Int32) &&& 0x3f).toInt64.toUInt64).toInt64)).toInt32))]))) st3 ?_
    obtain ⟨fs, hr, hrun, hended, hW, hsame⟩ := X3.leave (v := (some (.int (f_inz ((((q0).toUInt64 >>> ((32 : Int32) &&& 0x3f).toInt64.toUInt64).toInt64)).toInt32)))) (fun h => by rw [hret] at h; cases h)
    refine Wp.done (retI X3 hx hret (hb hby d4_25) hr) hrun hended ⟨_, _, rfl, ?_, ⟨_, rfl⟩, hW, hsame.mono (by decide) (by decide)⟩
    show QP _ h0 n0 _ T3.heap _
    exact ⟨(by rw [f_lnz, if_neg c7_1]), N3, e3⟩
def f_min (p0 : Int32) (p1 : Int32) : Int32 := (if p1 < p0 then p1 else p0)
theorem d11_0 : decode jdk_29_method_69_code 0 = .ok (.iload_n 0, 1) := by decide +kernel
theorem d11_1 : decode jdk_29_method_69_code 1 = .ok (.iload_n 1, 1) := by decide +kernel
theorem d11_2 : decode jdk_29_method_69_code 2 = .ok (.if_icmp .gt 7, 3) := by decide +kernel
theorem d11_5 : decode jdk_29_method_69_code 5 = .ok (.iload_n 0, 1) := by decide +kernel
theorem d11_6 : decode jdk_29_method_69_code 6 = .ok (.goto 4, 3) := by decide +kernel
theorem d11_9 : decode jdk_29_method_69_code 9 = .ok (.iload_n 1, 1) := by decide +kernel
theorem d11_10 : decode jdk_29_method_69_code 10 = .ok (.ireturn, 1) := by decide +kernel
theorem ef11_II (m : MethodId) (x0 : Int32) (x1 : Int32) : entryFrame m #[(.int x0), (.int x1)] 2 = mkF m 0 #[.val (.int x0), .val (.int x1)] [] := by first | (simp [entryFrame, mkF, argsToLocals, Value.category]; done) | rfl
set_option maxRecDepth 65536 in
set_option maxHeartbeats 40000000 in
theorem rm_f_min (l : Launch) (Z : State) (a0 : Array Value) (hw : ∀ d ∈ tables_1, d.before a0 Z = true) (ws : List Jvm.Cond) (p0 : Int32) (p1 : Int32) (h0 : Heap) (n0 : Nat) (Z0 : n0 ≤ h0.size)  :
    Met l Z Y2 jdk_29_method_69_code 2 (some .int) ws ({ frames := 0, cells := 0, slots := 0, locals := 0 } : Room) #[(.int p0), (.int p1)] h0 (QP (some (.int (f_min p0 p1))) h0 n0) := by
  refine own_body (Jvm.Free.JP.mathPlain rfl (by decide +kernel)) ?_
  intro p e s m below meth c s₁ hx hby hret hlk hml hZ hown hnm X0 e0
  have N0 := Fr.nil n0
  refine Wp.back (U' := (s₁.setTop (mkF m 0 #[.val (.int p0), .val (.int p1)] []))) (fun t k => castTop (ef11_II m p0 p1) k) ?_
  refine Wp.back (U' := (s₁.setTop (mkF m 2 #[.val (.int p0), .val (.int p1)] [(.int p1), (.int p0)]))) (fun t k => XS.iloadN X0.here hx rfl (hb hby d11_0) rfl (XS.iloadN X0.here hx rfl (hb hby d11_1) rfl k)) ?_
  by_cases c2_1 : p1 < p0
  · refine Wp.back (U' := (s₁.setTop (mkF m 10 #[.val (.int p0), .val (.int p1)] [(.int p1)]))) (fun t k => XS.icmpYes X0.here hx rfl (pc0 := 2) (pc' := 9) rfl (hb hby d11_2) rfl (tlt c2_1).2.2.1 (by decide) (by decide) (XS.iloadN X0.here hx rfl (hb hby d11_9) rfl k)) ?_
    obtain ⟨fs, hr, hrun, hended, hW, hsame⟩ := X0.leave (v := (some (.int p1))) (fun h => by rw [hret] at h; cases h)
    refine Wp.done (retI X0 hx hret (hb hby d11_10) hr) hrun hended ⟨_, _, rfl, ?_, ⟨_, rfl⟩, hW, hsame.mono (by decide) (by decide)⟩
    show QP _ h0 n0 _ s₁.heap _
    exact ⟨(by rw [f_min, if_pos c2_1]), N0, e0⟩
  · refine Wp.back (U' := (s₁.setTop (mkF m 10 #[.val (.int p0), .val (.int p1)] [(.int p0)]))) (fun t k => XS.icmpNo X0.here hx rfl (hb hby d11_2) rfl (flt c2_1).2.2.1 (XS.iloadN X0.here hx rfl (hb hby d11_5) rfl (XS.goto X0.here hx rfl (pc0 := 6) (pc' := 10) rfl (hb hby d11_6) (by decide) (by decide) k))) ?_
    obtain ⟨fs, hr, hrun, hended, hW, hsame⟩ := X0.leave (v := (some (.int p0))) (fun h => by rw [hret] at h; cases h)
    refine Wp.done (retI X0 hx hret (hb hby d11_10) hr) hrun hended ⟨_, _, rfl, ?_, ⟨_, rfl⟩, hW, hsame.mono (by decide) (by decide)⟩
    show QP _ h0 n0 _ s₁.heap _
    exact ⟨(by rw [f_min, if_neg c2_1]), N0, e0⟩
def f_bl (p0 : Int32) : Int32 := (if p0 < (2 : Int32) then (1 : Int32) else (if p0 < (4 : Int32) then (2 : Int32) else (if p0 < (8 : Int32) then (3 : Int32) else (if p0 < (16 : Int32) then (4 : Int32) else (if p0 < (32 : Int32) then (5 : Int32) else (if p0 < (64 : Int32) then (6 : Int32) else (if p0 < (128 : Int32) then (7 : Int32) else (if p0 < (256 : Int32) then (8 : Int32) else (9 : Int32)))))))))
theorem d1_0 : decode method_3_code 0 = .ok (.iload_n 0, 1) := by decide +kernel
theorem d1_1 : decode method_3_code 1 = .ok (.iconst 2, 1) := by decide +kernel
theorem d1_2 : decode method_3_code 2 = .ok (.if_icmp .ge 5, 3) := by decide +kernel
theorem d1_5 : decode method_3_code 5 = .ok (.iconst 1, 1) := by decide +kernel
theorem d1_6 : decode method_3_code 6 = .ok (.ireturn, 1) := by decide +kernel
theorem d1_7 : decode method_3_code 7 = .ok (.iload_n 0, 1) := by decide +kernel
theorem d1_8 : decode method_3_code 8 = .ok (.iconst 4, 1) := by decide +kernel
theorem d1_9 : decode method_3_code 9 = .ok (.if_icmp .ge 5, 3) := by decide +kernel
theorem d1_12 : decode method_3_code 12 = .ok (.iconst 2, 1) := by decide +kernel
theorem d1_13 : decode method_3_code 13 = .ok (.ireturn, 1) := by decide +kernel
theorem d1_14 : decode method_3_code 14 = .ok (.iload_n 0, 1) := by decide +kernel
theorem d1_15 : decode method_3_code 15 = .ok (.bipush 8, 2) := by decide +kernel
theorem d1_17 : decode method_3_code 17 = .ok (.if_icmp .ge 5, 3) := by decide +kernel
theorem d1_20 : decode method_3_code 20 = .ok (.iconst 3, 1) := by decide +kernel
theorem d1_21 : decode method_3_code 21 = .ok (.ireturn, 1) := by decide +kernel
theorem d1_22 : decode method_3_code 22 = .ok (.iload_n 0, 1) := by decide +kernel
theorem d1_23 : decode method_3_code 23 = .ok (.bipush 16, 2) := by decide +kernel
theorem d1_25 : decode method_3_code 25 = .ok (.if_icmp .ge 5, 3) := by decide +kernel
theorem d1_28 : decode method_3_code 28 = .ok (.iconst 4, 1) := by decide +kernel
theorem d1_29 : decode method_3_code 29 = .ok (.ireturn, 1) := by decide +kernel
theorem d1_30 : decode method_3_code 30 = .ok (.iload_n 0, 1) := by decide +kernel
theorem d1_31 : decode method_3_code 31 = .ok (.bipush 32, 2) := by decide +kernel
theorem d1_33 : decode method_3_code 33 = .ok (.if_icmp .ge 5, 3) := by decide +kernel
theorem d1_36 : decode method_3_code 36 = .ok (.iconst 5, 1) := by decide +kernel
theorem d1_37 : decode method_3_code 37 = .ok (.ireturn, 1) := by decide +kernel
theorem d1_38 : decode method_3_code 38 = .ok (.iload_n 0, 1) := by decide +kernel
theorem d1_39 : decode method_3_code 39 = .ok (.bipush 64, 2) := by decide +kernel
theorem d1_41 : decode method_3_code 41 = .ok (.if_icmp .ge 6, 3) := by decide +kernel
theorem d1_44 : decode method_3_code 44 = .ok (.bipush 6, 2) := by decide +kernel
theorem d1_46 : decode method_3_code 46 = .ok (.ireturn, 1) := by decide +kernel
theorem d1_47 : decode method_3_code 47 = .ok (.iload_n 0, 1) := by decide +kernel
theorem d1_48 : decode method_3_code 48 = .ok (.sipush 128, 3) := by decide +kernel
theorem d1_51 : decode method_3_code 51 = .ok (.if_icmp .ge 6, 3) := by decide +kernel
theorem d1_54 : decode method_3_code 54 = .ok (.bipush 7, 2) := by decide +kernel
theorem d1_56 : decode method_3_code 56 = .ok (.ireturn, 1) := by decide +kernel
theorem d1_57 : decode method_3_code 57 = .ok (.iload_n 0, 1) := by decide +kernel
theorem d1_58 : decode method_3_code 58 = .ok (.sipush 256, 3) := by decide +kernel
theorem d1_61 : decode method_3_code 61 = .ok (.if_icmp .ge 6, 3) := by decide +kernel
theorem d1_64 : decode method_3_code 64 = .ok (.bipush 8, 2) := by decide +kernel
theorem d1_66 : decode method_3_code 66 = .ok (.ireturn, 1) := by decide +kernel
theorem d1_67 : decode method_3_code 67 = .ok (.bipush 9, 2) := by decide +kernel
theorem d1_69 : decode method_3_code 69 = .ok (.ireturn, 1) := by decide +kernel
theorem pn1 : plainName "com/example/known_leaks/knownleaks/CellPackingWritePinLaw" = true := by first | (simp [plainName, overriddenIn]; done) | decide +kernel
theorem ef1_I (m : MethodId) (x0 : Int32) : entryFrame m #[(.int x0)] 1 = mkF m 0 #[.val (.int x0)] [] := by first | (simp [entryFrame, mkF, argsToLocals, Value.category]; done) | rfl
set_option maxRecDepth 65536 in
set_option maxHeartbeats 40000000 in
theorem rm_f_bl (l : Launch) (Z : State) (a0 : Array Value) (hw : ∀ d ∈ tables_1, d.before a0 Z = true) (ws : List Jvm.Cond) (p0 : Int32) (h0 : Heap) (n0 : Nat) (Z0 : n0 ≤ h0.size)  :
    Met l Z Y3 method_3_code 1 (some .int) ws ({ frames := 0, cells := 0, slots := 0, locals := 0 } : Room) #[(.int p0)] h0 (QP (some (.int (f_bl p0))) h0 n0) := by
  refine own_body (plainFor_of_name pn1) ?_
  intro p e s m below meth c s₁ hx hby hret hlk hml hZ hown hnm X0 e0
  have N0 := Fr.nil n0
  refine Wp.back (U' := (s₁.setTop (mkF m 0 #[.val (.int p0)] []))) (fun t k => castTop (ef1_I m p0) k) ?_
  refine Wp.back (U' := (s₁.setTop (mkF m 2 #[.val (.int p0)] [(.int 2), (.int p0)]))) (fun t k => XS.iloadN X0.here hx rfl (hb hby d1_0) rfl (XT.iconstV X0.here hx rfl 2 (hb hby d1_1) (by decide) k)) ?_
  by_cases c2_1 : p0 < (2 : Int32)
  · refine Wp.back (U' := (s₁.setTop (mkF m 6 #[.val (.int p0)] [(.int 1)]))) (fun t k => XS.icmpNo X0.here hx rfl (hb hby d1_2) rfl (tlt c2_1).2.1 (XT.iconstV X0.here hx rfl 1 (hb hby d1_5) (by decide) k)) ?_
    obtain ⟨fs, hr, hrun, hended, hW, hsame⟩ := X0.leave (v := (some (.int 1))) (fun h => by rw [hret] at h; cases h)
    refine Wp.done (retI X0 hx hret (hb hby d1_6) hr) hrun hended ⟨_, _, rfl, ?_, ⟨_, rfl⟩, hW, hsame.mono (by decide) (by decide)⟩
    show QP _ h0 n0 _ s₁.heap _
    exact ⟨(by rw [f_bl, if_pos c2_1]), N0, e0⟩
  · refine Wp.back (U' := (s₁.setTop (mkF m 9 #[.val (.int p0)] [(.int 4), (.int p0)]))) (fun t k => XS.icmpYes X0.here hx rfl (pc0 := 2) (pc' := 7) rfl (hb hby d1_2) rfl (flt c2_1).2.1 (by decide) (by decide) (XS.iloadN X0.here hx rfl (hb hby d1_7) rfl (XT.iconstV X0.here hx rfl 4 (hb hby d1_8) (by decide) k))) ?_
    by_cases c9_2 : p0 < (4 : Int32)
    · refine Wp.back (U' := (s₁.setTop (mkF m 13 #[.val (.int p0)] [(.int 2)]))) (fun t k => XS.icmpNo X0.here hx rfl (hb hby d1_9) rfl (tlt c9_2).2.1 (XT.iconstV X0.here hx rfl 2 (hb hby d1_12) (by decide) k)) ?_
      obtain ⟨fs, hr, hrun, hended, hW, hsame⟩ := X0.leave (v := (some (.int 2))) (fun h => by rw [hret] at h; cases h)
      refine Wp.done (retI X0 hx hret (hb hby d1_13) hr) hrun hended ⟨_, _, rfl, ?_, ⟨_, rfl⟩, hW, hsame.mono (by decide) (by decide)⟩
      show QP _ h0 n0 _ s₁.heap _
      exact ⟨(by rw [f_bl, if_neg c2_1, if_pos c9_2]), N0, e0⟩
    · refine Wp.back (U' := (s₁.setTop (mkF m 17 #[.val (.int p0)] [(.int 8), (.int p0)]))) (fun t k => XS.icmpYes X0.here hx rfl (pc0 := 9) (pc' := 14) rfl (hb hby d1_9) rfl (flt c9_2).2.1 (by decide) (by decide) (XS.iloadN X0.here hx rfl (hb hby d1_14) rfl (XT.bipushV X0.here hx rfl 8 (hb hby d1_15) (by decide) k))) ?_
      by_cases c17_3 : p0 < (8 : Int32)
      · refine Wp.back (U' := (s₁.setTop (mkF m 21 #[.val (.int p0)] [(.int 3)]))) (fun t k => XS.icmpNo X0.here hx rfl (hb hby d1_17) rfl (tlt c17_3).2.1 (XT.iconstV X0.here hx rfl 3 (hb hby d1_20) (by decide) k)) ?_
        obtain ⟨fs, hr, hrun, hended, hW, hsame⟩ := X0.leave (v := (some (.int 3))) (fun h => by rw [hret] at h; cases h)
        refine Wp.done (retI X0 hx hret (hb hby d1_21) hr) hrun hended ⟨_, _, rfl, ?_, ⟨_, rfl⟩, hW, hsame.mono (by decide) (by decide)⟩
        show QP _ h0 n0 _ s₁.heap _
        exact ⟨(by rw [f_bl, if_neg c2_1, if_neg c9_2, if_pos c17_3]), N0, e0⟩
      · refine Wp.back (U' := (s₁.setTop (mkF m 25 #[.val (.int p0)] [(.int 16), (.int p0)]))) (fun t k => XS.icmpYes X0.here hx rfl (pc0 := 17) (pc' := 22) rfl (hb hby d1_17) rfl (flt c17_3).2.1 (by decide) (by decide) (XS.iloadN X0.here hx rfl (hb hby d1_22) rfl (XT.bipushV X0.here hx rfl 16 (hb hby d1_23) (by decide) k))) ?_
        by_cases c25_4 : p0 < (16 : Int32)
        · refine Wp.back (U' := (s₁.setTop (mkF m 29 #[.val (.int p0)] [(.int 4)]))) (fun t k => XS.icmpNo X0.here hx rfl (hb hby d1_25) rfl (tlt c25_4).2.1 (XT.iconstV X0.here hx rfl 4 (hb hby d1_28) (by decide) k)) ?_
          obtain ⟨fs, hr, hrun, hended, hW, hsame⟩ := X0.leave (v := (some (.int 4))) (fun h => by rw [hret] at h; cases h)
          refine Wp.done (retI X0 hx hret (hb hby d1_29) hr) hrun hended ⟨_, _, rfl, ?_, ⟨_, rfl⟩, hW, hsame.mono (by decide) (by decide)⟩
          show QP _ h0 n0 _ s₁.heap _
          exact ⟨(by rw [f_bl, if_neg c2_1, if_neg c9_2, if_neg c17_3, if_pos c25_4]), N0, e0⟩
        · refine Wp.back (U' := (s₁.setTop (mkF m 33 #[.val (.int p0)] [(.int 32), (.int p0)]))) (fun t k => XS.icmpYes X0.here hx rfl (pc0 := 25) (pc' := 30) rfl (hb hby d1_25) rfl (flt c25_4).2.1 (by decide) (by decide) (XS.iloadN X0.here hx rfl (hb hby d1_30) rfl (XT.bipushV X0.here hx rfl 32 (hb hby d1_31) (by decide) k))) ?_
          by_cases c33_5 : p0 < (32 : Int32)
          · refine Wp.back (U' := (s₁.setTop (mkF m 37 #[.val (.int p0)] [(.int 5)]))) (fun t k => XS.icmpNo X0.here hx rfl (hb hby d1_33) rfl (tlt c33_5).2.1 (XT.iconstV X0.here hx rfl 5 (hb hby d1_36) (by decide) k)) ?_
            obtain ⟨fs, hr, hrun, hended, hW, hsame⟩ := X0.leave (v := (some (.int 5))) (fun h => by rw [hret] at h; cases h)
            refine Wp.done (retI X0 hx hret (hb hby d1_37) hr) hrun hended ⟨_, _, rfl, ?_, ⟨_, rfl⟩, hW, hsame.mono (by decide) (by decide)⟩
            show QP _ h0 n0 _ s₁.heap _
            exact ⟨(by rw [f_bl, if_neg c2_1, if_neg c9_2, if_neg c17_3, if_neg c25_4, if_pos c33_5]), N0, e0⟩
          · refine Wp.back (U' := (s₁.setTop (mkF m 41 #[.val (.int p0)] [(.int 64), (.int p0)]))) (fun t k => XS.icmpYes X0.here hx rfl (pc0 := 33) (pc' := 38) rfl (hb hby d1_33) rfl (flt c33_5).2.1 (by decide) (by decide) (XS.iloadN X0.here hx rfl (hb hby d1_38) rfl (XT.bipushV X0.here hx rfl 64 (hb hby d1_39) (by decide) k))) ?_
            by_cases c41_6 : p0 < (64 : Int32)
            · refine Wp.back (U' := (s₁.setTop (mkF m 46 #[.val (.int p0)] [(.int 6)]))) (fun t k => XS.icmpNo X0.here hx rfl (hb hby d1_41) rfl (tlt c41_6).2.1 (XT.bipushV X0.here hx rfl 6 (hb hby d1_44) (by decide) k)) ?_
              obtain ⟨fs, hr, hrun, hended, hW, hsame⟩ := X0.leave (v := (some (.int 6))) (fun h => by rw [hret] at h; cases h)
              refine Wp.done (retI X0 hx hret (hb hby d1_46) hr) hrun hended ⟨_, _, rfl, ?_, ⟨_, rfl⟩, hW, hsame.mono (by decide) (by decide)⟩
              show QP _ h0 n0 _ s₁.heap _
              exact ⟨(by rw [f_bl, if_neg c2_1, if_neg c9_2, if_neg c17_3, if_neg c25_4, if_neg c33_5, if_pos c41_6]), N0, e0⟩
            · refine Wp.back (U' := (s₁.setTop (mkF m 51 #[.val (.int p0)] [(.int 128), (.int p0)]))) (fun t k => XS.icmpYes X0.here hx rfl (pc0 := 41) (pc' := 47) rfl (hb hby d1_41) rfl (flt c41_6).2.1 (by decide) (by decide) (XS.iloadN X0.here hx rfl (hb hby d1_47) rfl (XT.sipushV X0.here hx rfl 128 (hb hby d1_48) (by decide) k))) ?_
              by_cases c51_7 : p0 < (128 : Int32)
              · refine Wp.back (U' := (s₁.setTop (mkF m 56 #[.val (.int p0)] [(.int 7)]))) (fun t k => XS.icmpNo X0.here hx rfl (hb hby d1_51) rfl (tlt c51_7).2.1 (XT.bipushV X0.here hx rfl 7 (hb hby d1_54) (by decide) k)) ?_
                obtain ⟨fs, hr, hrun, hended, hW, hsame⟩ := X0.leave (v := (some (.int 7))) (fun h => by rw [hret] at h; cases h)
                refine Wp.done (retI X0 hx hret (hb hby d1_56) hr) hrun hended ⟨_, _, rfl, ?_, ⟨_, rfl⟩, hW, hsame.mono (by decide) (by decide)⟩
                show QP _ h0 n0 _ s₁.heap _
                exact ⟨(by rw [f_bl, if_neg c2_1, if_neg c9_2, if_neg c17_3, if_neg c25_4, if_neg c33_5, if_neg c41_6, if_pos c51_7]), N0, e0⟩
              · refine Wp.back (U' := (s₁.setTop (mkF m 61 #[.val (.int p0)] [(.int 256), (.int p0)]))) (fun t k => XS.icmpYes X0.here hx rfl (pc0 := 51) (pc' := 57) rfl (hb hby d1_51) rfl (flt c51_7).2.1 (by decide) (by decide) (XS.iloadN X0.here hx rfl (hb hby d1_57) rfl (XT.sipushV X0.here hx rfl 256 (hb hby d1_58) (by decide) k))) ?_
                by_cases c61_8 : p0 < (256 : Int32)
                · refine Wp.back (U' := (s₁.setTop (mkF m 66 #[.val (.int p0)] [(.int 8)]))) (fun t k => XS.icmpNo X0.here hx rfl (hb hby d1_61) rfl (tlt c61_8).2.1 (XT.bipushV X0.here hx rfl 8 (hb hby d1_64) (by decide) k)) ?_
                  obtain ⟨fs, hr, hrun, hended, hW, hsame⟩ := X0.leave (v := (some (.int 8))) (fun h => by rw [hret] at h; cases h)
                  refine Wp.done (retI X0 hx hret (hb hby d1_66) hr) hrun hended ⟨_, _, rfl, ?_, ⟨_, rfl⟩, hW, hsame.mono (by decide) (by decide)⟩
                  show QP _ h0 n0 _ s₁.heap _
                  exact ⟨(by rw [f_bl, if_neg c2_1, if_neg c9_2, if_neg c17_3, if_neg c25_4, if_neg c33_5, if_neg c41_6, if_neg c51_7, if_pos c61_8]), N0, e0⟩
                · refine Wp.back (U' := (s₁.setTop (mkF m 69 #[.val (.int p0)] [(.int 9)]))) (fun t k => XS.icmpYes X0.here hx rfl (pc0 := 61) (pc' := 67) rfl (hb hby d1_61) rfl (flt c61_8).2.1 (by decide) (by decide) (XT.bipushV X0.here hx rfl 9 (hb hby d1_67) (by decide) k)) ?_
                  obtain ⟨fs, hr, hrun, hended, hW, hsame⟩ := X0.leave (v := (some (.int 9))) (fun h => by rw [hret] at h; cases h)
                  refine Wp.done (retI X0 hx hret (hb hby d1_69) hr) hrun hended ⟨_, _, rfl, ?_, ⟨_, rfl⟩, hW, hsame.mono (by decide) (by decide)⟩
                  show QP _ h0 n0 _ s₁.heap _
                  exact ⟨(by rw [f_bl, if_neg c2_1, if_neg c9_2, if_neg c17_3, if_neg c25_4, if_neg c33_5, if_neg c41_6, if_neg c51_7, if_neg c61_8]), N0, e0⟩
def f_pl (q0 : Int64) (p1 : Int32) (p2 : Int32) (p3 : Int32) : Int64 := (if q0 = (0 : Int64) then (0 : Int64) else (q0 <<< ((((64 : Int32) - ((8 : Int32) * p1)) - ((p2 + (1 : Int32)) * p3)) &&& 0x3f).toInt64))
theorem d9_0 : decode method_6_code 0 = .ok (.lload_n 0, 1) := by decide +kernel
theorem d9_1 : decode method_6_code 1 = .ok (.lconst 0, 1) := by decide +kernel
theorem d9_2 : decode method_6_code 2 = .ok (.lcmp, 1) := by decide +kernel
theorem d9_3 : decode method_6_code 3 = .ok (.ifCond .ne 5, 3) := by decide +kernel
theorem d9_6 : decode method_6_code 6 = .ok (.lconst 0, 1) := by decide +kernel
theorem d9_7 : decode method_6_code 7 = .ok (.lreturn, 1) := by decide +kernel
theorem d9_8 : decode method_6_code 8 = .ok (.lload_n 0, 1) := by decide +kernel
theorem d9_9 : decode method_6_code 9 = .ok (.bipush 64, 2) := by decide +kernel
theorem d9_11 : decode method_6_code 11 = .ok (.bipush 8, 2) := by decide +kernel
theorem d9_13 : decode method_6_code 13 = .ok (.iload_n 2, 1) := by decide +kernel
theorem d9_14 : decode method_6_code 14 = .ok (.imul, 1) := by decide +kernel
theorem d9_15 : decode method_6_code 15 = .ok (.isub, 1) := by decide +kernel
theorem d9_16 : decode method_6_code 16 = .ok (.iload_n 3, 1) := by decide +kernel
theorem d9_17 : decode method_6_code 17 = .ok (.iconst 1, 1) := by decide +kernel
theorem d9_18 : decode method_6_code 18 = .ok (.iadd, 1) := by decide +kernel
theorem d9_19 : decode method_6_code 19 = .ok (.iload 4, 2) := by decide +kernel
theorem d9_21 : decode method_6_code 21 = .ok (.imul, 1) := by decide +kernel
theorem d9_22 : decode method_6_code 22 = .ok (.isub, 1) := by decide +kernel
theorem d9_23 : decode method_6_code 23 = .ok (.lshl, 1) := by decide +kernel
theorem d9_24 : decode method_6_code 24 = .ok (.lreturn, 1) := by decide +kernel
theorem pn9 : plainName "com/example/known_leaks/knownleaks/CellPackingWritePinLaw" = true := by first | (simp [plainName, overriddenIn]; done) | decide +kernel
theorem ef9_JIII (m : MethodId) (x0 : Int64) (x1 : Int32) (x2 : Int32) (x3 : Int32) : entryFrame m #[(.long x0), (.int x1), (.int x2), (.int x3)] 5 = mkF m 0 #[.val (.long x0), .second, .val (.int x1), .val (.int x2), .val (.int x3)] [] := by first | (simp [entryFrame, mkF, argsToLocals, Value.category]; done) | rfl
set_option maxRecDepth 65536 in
set_option maxHeartbeats 40000000 in
theorem rm_f_pl (l : Launch) (Z : State) (a0 : Array Value) (hw : ∀ d ∈ tables_1, d.before a0 Z = true) (ws : List Jvm.Cond) (q0 : Int64) (p1 : Int32) (p2 : Int32) (p3 : Int32) (h0 : Heap) (n0 : Nat) (Z0 : n0 ≤ h0.size)  :
    Met l Z Y4 method_6_code 5 (some .long) ws ({ frames := 0, cells := 0, slots := 0, locals := 0 } : Room) #[(.long q0), (.int p1), (.int p2), (.int p3)] h0 (QP (some (.long (f_pl q0 p1 p2 p3))) h0 n0) := by
  refine own_body (plainFor_of_name pn9) ?_
  intro p e s m below meth c s₁ hx hby hret hlk hml hZ hown hnm X0 e0
  have N0 := Fr.nil n0
  refine Wp.back (U' := (s₁.setTop (mkF m 0 #[.val (.long q0), .second, .val (.int p1), .val (.int p2), .val (.int p3)] []))) (fun t k => castTop (ef9_JIII m q0 p1 p2 p3) k) ?_
  refine Wp.back (U' := (s₁.setTop (mkF m 3 #[.val (.long q0), .second, .val (.int p1), .val (.int p2), .val (.int p3)] [(.int (lcmpW q0 (0 : Int64)))]))) (fun t k => XS.lloadN X0.here hx rfl (hb hby d9_0) rfl (XT.lconstV X0.here hx rfl (0 : Int64) (hb hby d9_1) (by decide) (XS.lcmp X0.here hx rfl (hb hby d9_2) rfl k))) ?_
  by_cases c3_1 : q0 = (0 : Int64)
  · refine Wp.back (U' := (s₁.setTop (mkF m 7 #[.val (.long q0), .second, .val (.int p1), .val (.int p2), .val (.int p3)] [(.long (0 : Int64))]))) (fun t k => XS.ifNo X0.here hx rfl (hb hby d9_3) rfl ((if0 _ _).trans (teq ((lw_eq q0 (0 : Int64)).mpr c3_1)).2) (XT.lconstV X0.here hx rfl (0 : Int64) (hb hby d9_6) (by decide) k)) ?_
    obtain ⟨fs, hr, hrun, hended, hW, hsame⟩ := X0.leave (v := (some (.long (0 : Int64)))) (fun h => by rw [hret] at h; cases h)
    refine Wp.done (retOut X0 hx hret rfl (Or.inr (Or.inl ⟨rfl, rfl, _, rfl⟩)) (hb hby d9_7) hr) hrun hended ⟨_, _, rfl, ?_, ⟨_, rfl⟩, hW, hsame.mono (by decide) (by decide)⟩
    show QP _ h0 n0 _ s₁.heap _
    exact ⟨(by rw [f_pl, if_pos c3_1]), N0, e0⟩
  · refine Wp.back (U' := (s₁.setTop (mkF m 22 #[.val (.long q0), .second, .val (.int p1), .val (.int p2), .val (.int p3)] [(.int ((p2 + (1 : Int32)) * p3)), (.int ((64 : Int32) - ((8 : Int32) * p1))), (.long q0)]))) (fun t k => XS.ifYes X0.here hx rfl (pc0 := 3) (pc' := 8) rfl (hb hby d9_3) rfl ((if0 _ _).trans (feq (fun q => c3_1 ((lw_eq q0 (0 : Int64)).mp q))).2) (by decide) (by decide) (XS.lloadN X0.here hx rfl (hb hby d9_8) rfl (XT.bipushV X0.here hx rfl 64 (hb hby d9_9) (by decide) (XT.bipushV X0.here hx rfl 8 (hb hby d9_11) (by decide) (XS.iloadN X0.here hx rfl (hb hby d9_13) rfl (XS.imul X0.here hx rfl (hb hby d9_14) rfl (XS.isub X0.here hx rfl (hb hby d9_15) rfl (XS.iloadN X0.here hx rfl (hb hby d9_16) rfl (XT.iconstV X0.here hx rfl 1 (hb hby d9_17) (by decide) (XS.iadd X0.here hx rfl (hb hby d9_18) rfl (XS.iload X0.here hx rfl (hb hby d9_19) rfl (XS.imul X0.here hx rfl (hb hby d9_21) rfl k)))))))))))) ?_
    refine Wp.back (U' := (s₁.setTop (mkF m 24 #[.val (.long q0), .second, .val (.int p1), .val (.int p2), .val (.int p3)] [(.long (q0 <<< ((((64 : Int32) - ((8 : Int32) * p1)) - ((p2 + (1 : Int32)) * p3)) &&& 0x3f).toInt64))]))) (fun t k => XS.isub X0.here hx rfl (hb hby d9_22) rfl (XS.lshl X0.here hx rfl (hb hby d9_23) rfl k)) ?_
    obtain ⟨fs, hr, hrun, hended, hW, hsame⟩ := X0.leave (v := (some (.long (q0 <<< ((((64 : Int32) - ((8 : Int32) * p1)) - ((p2 + (1 : Int32)) * p3)) &&& 0x3f).toInt64)))) (fun h => by rw [hret] at h; cases h)
    refine Wp.done (retOut X0 hx hret rfl (Or.inr (Or.inl ⟨rfl, rfl, _, rfl⟩)) (hb hby d9_24) hr) hrun hended ⟨_, _, rfl, ?_, ⟨_, rfl⟩, hW, hsame.mono (by decide) (by decide)⟩
    show QP _ h0 n0 _ s₁.heap _
    exact ⟨(by rw [f_pl, if_neg c3_1]), N0, e0⟩
def own_L (f : Int32 → Int32) : List Value := [(.int (f (0 : Int32))), (.int (f (1 : Int32))), (.int (f (2 : Int32))), (.int (f (3 : Int32))), (.int (f (4 : Int32))), (.int (f (5 : Int32))), (.int (f (6 : Int32))), (.int (f (7 : Int32))), (.int (f (8 : Int32)))]
def own_upd (f : Int32 → Int32) (j w : Int32) : Int32 → Int32 := fun i => if i = j then w else f i
theorem own_c9 {j : Int32} (b : ¬ j < 0 ∧ j < 9) : j = 0 ∨ j = 1 ∨ j = 2 ∨ j = 3 ∨ j = 4 ∨ j = 5 ∨ j = 6 ∨ j = 7 ∨ j = 8 := by
  obtain ⟨b1, b2⟩ := b
  rw [Int32.lt_iff_toInt_lt] at b1 b2
  have e0 : (0 : Int32).toInt = 0 := by decide
  have e1 : (1 : Int32).toInt = 1 := by decide
  have e2 : (2 : Int32).toInt = 2 := by decide
  have e3 : (3 : Int32).toInt = 3 := by decide
  have e4 : (4 : Int32).toInt = 4 := by decide
  have e5 : (5 : Int32).toInt = 5 := by decide
  have e6 : (6 : Int32).toInt = 6 := by decide
  have e7 : (7 : Int32).toInt = 7 := by decide
  have e8 : (8 : Int32).toInt = 8 := by decide
  have e9 : (9 : Int32).toInt = 9 := by decide
  simp only [← Int32.toInt_inj, e0, e1, e2, e3, e4, e5, e6, e7, e8, e9]
  omega
theorem own_getL (f : Int32 → Int32) {j : Int32} (b : ¬ j < 0 ∧ j < 9) : (own_L f).getD j.toNatClampNeg (.int 0) = .int (f j) := by
  rcases own_c9 b with rfl | rfl | rfl | rfl | rfl | rfl | rfl | rfl | rfl <;> rfl
theorem own_setL {Z : State} {h h' : Heap} {a : Addr} {k : ClassId} {f : Int32 → Int32} {c : Cell} (A : Arr Z h a c .byte) (q1 : c.cls = k) (S : c.slots.size = (9 : Int32).toNatClampNeg) (q3 : ¬ (9 : Int32) < 0) (H : Has c (own_L f) (.int 0)) (G : ∀ i, i < c.slots.size → fits .byte ((own_L f).getD i (.int 0)) = true) {j w : Int32} (hv : fits .byte (.int w) = true) (W : Wr h h' a j.toNatClampNeg (.int w)) (b : ¬ j < 0 ∧ j < 9) : Arv Z h' a k .byte (9 : Int32) (own_L (own_upd f j w)) (.int 0) := by
  rcases own_c9 b with rfl | rfl | rfl | rfl | rfl | rfl | rfl | rfl | rfl
  · exact Arv.set A q1 S q3 H G hv W 0 rfl (by decide : 0 < 9)
  · exact Arv.set A q1 S q3 H G hv W 1 rfl (by decide : 1 < 9)
  · exact Arv.set A q1 S q3 H G hv W 2 rfl (by decide : 2 < 9)
  · exact Arv.set A q1 S q3 H G hv W 3 rfl (by decide : 3 < 9)
  · exact Arv.set A q1 S q3 H G hv W 4 rfl (by decide : 4 < 9)
  · exact Arv.set A q1 S q3 H G hv W 5 rfl (by decide : 5 < 9)
  · exact Arv.set A q1 S q3 H G hv W 6 rfl (by decide : 6 < 9)
  · exact Arv.set A q1 S q3 H G hv W 7 rfl (by decide : 7 < 9)
  · exact Arv.set A q1 S q3 H G hv W 8 rfl (by decide : 8 < 9)
def own_C (f : Int32 → Int32) : List Value := [(.int (f (0 : Int32))), (.int (f (1 : Int32))), (.int (f (2 : Int32))), (.int (f (3 : Int32)))]
def own_P (md : Int32) : List Value := [(.long (1 : Int64)), (.long ((1 : Int64) * (md).toInt64)), (.long (((1 : Int64) * (md).toInt64) * (md).toInt64)), (.long ((((1 : Int64) * (md).toInt64) * (md).toInt64) * (md).toInt64)), (.long (((((1 : Int64) * (md).toInt64) * (md).toInt64) * (md).toInt64) * (md).toInt64))]
theorem own_c4 {j : Int32} (b : ¬ j < 0 ∧ j < 4) : j = 0 ∨ j = 1 ∨ j = 2 ∨ j = 3 := by
  obtain ⟨b1, b2⟩ := b
  rw [Int32.lt_iff_toInt_lt] at b1 b2
  have e0 : (0 : Int32).toInt = 0 := by decide
  have e1 : (1 : Int32).toInt = 1 := by decide
  have e2 : (2 : Int32).toInt = 2 := by decide
  have e3 : (3 : Int32).toInt = 3 := by decide
  have e4 : (4 : Int32).toInt = 4 := by decide
  simp only [← Int32.toInt_inj, e0, e1, e2, e3, e4]
  omega
theorem own_getC (f : Int32 → Int32) {j : Int32} (b : ¬ j < 0 ∧ j < 4) : (own_C f).getD j.toNatClampNeg (.int 0) = .int (f j) := by
  rcases own_c4 b with rfl | rfl | rfl | rfl <;> rfl
def own_by (bt : Int64) : Int32 := ((((bt).toUInt64 >>> ((3 : Int32) &&& 0x3f).toInt64.toUInt64).toInt64)).toInt32
def own_ib (bt : Int64) : Int32 := ((bt &&& (7 : Int64))).toInt32
def own_sh (v bt : Int64) (bb : Int32) : Int64 := (v <<< ((((64 : Int32) - (own_ib bt)) - bb) &&& 0x3f).toInt64)
def own_ct (bt : Int64) (bb : Int32) : Int32 := ((((own_ib bt) + bb) + (7 : Int32)) / (8 : Int32))
def own_BT (off bb : Int32) (j : Int64) : Int64 := (((off).toInt64 * (8 : Int64)) + (j * (bb).toInt64))
def own_RB (bt : Int64) (bb : Int32) : Prop := (0 : Int32) < (own_ct bt bb) ∧ ¬ (4 : Int32) < (own_ct bt bb) ∧ ∀ t : Int32, 0 ≤ t.toInt → t < (own_ct bt bb) → ¬ ((own_by bt) + t) < 0 ∧ ((own_by bt) + t) < 9
def own_RA (g n i : Int32) : Prop := (0 : Int32) < (f_min g (n - i)) ∧ ¬ (4 : Int32) < (f_min g (n - i)) ∧ ∀ t : Int32, 0 ≤ t.toInt → t < (f_min g (n - i)) → (¬ (i + t) < 0 ∧ (i + t) < n) ∧ (¬ (i + t) < 0 ∧ (i + t) < 4) ∧ t < g
def own_sum (f : Int32 → Int32) (md i cn : Int32) : Int64 := (if (1 : Int32) < cn then (if (2 : Int32) < cn then (if (3 : Int32) < cn then (((((0 : Int64) + (((f (i + (0 : Int32)))).toInt64 * (1 : Int64))) + (((f (i + (1 : Int32)))).toInt64 * ((1 : Int64) * (md).toInt64))) + (((f (i + (2 : Int32)))).toInt64 * (((1 : Int64) * (md).toInt64) * (md).toInt64))) + (((f (i + (3 : Int32)))).toInt64 * ((((1 : Int64) * (md).toInt64) * (md).toInt64) * (md).toInt64))) else ((((0 : Int64) + (((f (i + (0 : Int32)))).toInt64 * (1 : Int64))) + (((f (i + (1 : Int32)))).toInt64 * ((1 : Int64) * (md).toInt64))) + (((f (i + (2 : Int32)))).toInt64 * (((1 : Int64) * (md).toInt64) * (md).toInt64)))) else (((0 : Int64) + (((f (i + (0 : Int32)))).toInt64 * (1 : Int64))) + (((f (i + (1 : Int32)))).toInt64 * ((1 : Int64) * (md).toInt64)))) else ((0 : Int64) + (((f (i + (0 : Int32)))).toInt64 * (1 : Int64))))
theorem d6_10 : decode prog_4_method_7_code 10 = .ok (.lconst 0, 1) := by decide +kernel
theorem d6_11 : decode prog_4_method_7_code 11 = .ok (.lstore 5, 2) := by decide +kernel
theorem d6_13 : decode prog_4_method_7_code 13 = .ok (.aload_n 0, 1) := by decide +kernel
theorem d6_14 : decode prog_4_method_7_code 14 = .ok (.getfield 32, 3) := by decide +kernel
theorem d6_17 : decode prog_4_method_7_code 17 = .ok (.aload_n 1, 1) := by decide +kernel
theorem d6_18 : decode prog_4_method_7_code 18 = .ok (.arraylength, 1) := by decide +kernel
theorem d6_19 : decode prog_4_method_7_code 19 = .ok (.iload 4, 2) := by decide +kernel
theorem d6_21 : decode prog_4_method_7_code 21 = .ok (.isub, 1) := by decide +kernel
theorem d6_22 : decode prog_4_method_7_code 22 = .ok (.invokestatic 52, 3) := by decide +kernel
theorem d6_25 : decode prog_4_method_7_code 25 = .ok (.istore 7, 2) := by decide +kernel
theorem d6_27 : decode prog_4_method_7_code 27 = .ok (.iconst 0, 1) := by decide +kernel
theorem d6_28 : decode prog_4_method_7_code 28 = .ok (.istore 8, 2) := by decide +kernel
theorem d6_30 : decode prog_4_method_7_code 30 = .ok (.iload 8, 2) := by decide +kernel
theorem d6_32 : decode prog_4_method_7_code 32 = .ok (.iload 7, 2) := by decide +kernel
theorem d6_34 : decode prog_4_method_7_code 34 = .ok (.if_icmp .ge 30, 3) := by decide +kernel
theorem d6_37 : decode prog_4_method_7_code 37 = .ok (.lload 5, 2) := by decide +kernel
theorem d6_39 : decode prog_4_method_7_code 39 = .ok (.aload_n 1, 1) := by decide +kernel
theorem d6_40 : decode prog_4_method_7_code 40 = .ok (.iload 4, 2) := by decide +kernel
theorem d6_42 : decode prog_4_method_7_code 42 = .ok (.iload 8, 2) := by decide +kernel
theorem d6_44 : decode prog_4_method_7_code 44 = .ok (.iadd, 1) := by decide +kernel
theorem d6_45 : decode prog_4_method_7_code 45 = .ok (.iaload, 1) := by decide +kernel
theorem d6_46 : decode prog_4_method_7_code 46 = .ok (.i2l, 1) := by decide +kernel
theorem d6_47 : decode prog_4_method_7_code 47 = .ok (.aload_n 0, 1) := by decide +kernel
theorem d6_48 : decode prog_4_method_7_code 48 = .ok (.getfield 22, 3) := by decide +kernel
theorem d6_51 : decode prog_4_method_7_code 51 = .ok (.iload 8, 2) := by decide +kernel
theorem d6_53 : decode prog_4_method_7_code 53 = .ok (.laload, 1) := by decide +kernel
theorem d6_54 : decode prog_4_method_7_code 54 = .ok (.lmul, 1) := by decide +kernel
theorem d6_55 : decode prog_4_method_7_code 55 = .ok (.ladd, 1) := by decide +kernel
theorem d6_56 : decode prog_4_method_7_code 56 = .ok (.lstore 5, 2) := by decide +kernel
theorem d6_58 : decode prog_4_method_7_code 58 = .ok (.iinc 8 1, 3) := by decide +kernel
theorem d6_61 : decode prog_4_method_7_code 61 = .ok (.goto (-31), 3) := by decide +kernel
theorem d6_64 : decode prog_4_method_7_code 64 = .ok (.iload_n 3, 1) := by decide +kernel
theorem pd_1 : parseMethodDescriptor "(II)I" = some ⟨[.int, .int], some .int⟩ := by decide +kernel
set_option maxRecDepth 65536 in
set_option maxHeartbeats 40000000 in
theorem own_pA0 {p : Program} {l : Launch} {e : Env} {s : State} {m : MethodId} {args : Array Value} {below : List Frame} {meth : Method} {c : Code} {T0 : State} {locs : List Loc} {Z : State} {a0 : Array Value} {hA : Heap} {n0 : Nat} (pk ce io pw : Addr) (kc kp : ClassId) (f : Int32 → Int32) (off i g n md : Int32)
    (hx : p.tables.exec = Jvm.exec) (hw : ∀ d ∈ tables_1, d.before a0 Z = true) (hby : c.code = prog_4_method_7_code) (hml : c.maxLocals = 15) (hZ : Z.Warmed39 s.vm) (hown : s.vm.findClass "com/example/known_leaks/knownleaks/CellPacking" = some m.cls) (X0 : Stand p l e ({ frames := 1, cells := 0, slots := 0, locals := 15 } : Room) s m args below meth c T0 locs 0 0) (e0 : T0.heap = hA) (N0 : Fr n0 locs) (Z0 : n0 ≤ hA.size) (H0 : Fld Z hA pk "com/example/known_leaks/knownleaks/CellPacking" "cellsPerBlock" "I" (.int g)) (H1 : Fld Z hA pk "com/example/known_leaks/knownleaks/CellPacking" "powers" "[J" (.ref pw)) (H2 : Arv Z hA ce kc .int n (own_C f) (.int 0)) (H3 : Arv Z hA pw kp .long g (own_P md) (.long (0 : Int64))) (hRA : own_RA g n i) {G : Outcome → State → Prop}
    (k : ∀ (T' : State) (h' : Heap) (L' : List Loc) (y8 : Int32), Stand p l e ({ frames := 1, cells := 0, slots := 0, locals := 15 } : Room) s m args below meth c T' L' 0 0 → T'.heap = h' → Fr n0 L' → Keep hA h' [] → Wp p e below G (T'.setTop (mkF m 64 #[.val (.ref pk), .val (.ref ce), .val (.ref io), .val (.int off), .val (.int i), .val (.long (own_sum f md i (f_min g (n - i)))), .second, .val (.int (f_min g (n - i))), .val (.int y8), .unset, .unset, .unset, .unset, .unset, .unset] []))) :
    Wp p e below G (T0.setTop (mkF m 10 #[.val (.ref pk), .val (.ref ce), .val (.ref io), .val (.int off), .val (.int i), .unset, .unset, .unset, .unset, .unset, .unset, .unset, .unset, .unset, .unset] [])) := by
  refine Wp.back (U' := (T0.setTop (mkF m 14 #[.val (.ref pk), .val (.ref ce), .val (.ref io), .val (.int off), .val (.int i), .val (.long (0 : Int64)), .second, .unset, .unset, .unset, .unset, .unset, .unset, .unset, .unset] [(.ref pk)]))) (fun t k => XT.lconstV X0.here hx rfl (0 : Int64) (hb hby d6_10) (by decide) (XS.lstore X0.here hx rfl (hb hby d6_11) rfl (l' := #[.val (.ref pk), .val (.ref ce), .val (.ref io), .val (.int off), .val (.int i), .val (.long (0 : Int64)), .second, .unset, .unset, .unset, .unset, .unset, .unset, .unset, .unset]) rfl (XS.aloadN X0.here hx rfl (hb hby d6_13) rfl rfl k))) ?_
  obtain ⟨T1, X1, e1, st1⟩ := getF X0 hx hZ hown (host := "") (Or.inl (ow hw 19 rfl)) Via.refl e0 H0 (g := (mkF m 14 #[.val (.ref pk), .val (.ref ce), .val (.ref io), .val (.int off), .val (.int i), .val (.long (0 : Int64)), .second, .unset, .unset, .unset, .unset, .unset, .unset, .unset, .unset] [(.ref pk)])) rfl rfl (hb hby d6_14)
  refine Wp.back (U' := (T1.setTop (mkF m 17 #[.val (.ref pk), .val (.ref ce), .val (.ref io), .val (.int off), .val (.int i), .val (.long (0 : Int64)), .second, .unset, .unset, .unset, .unset, .unset, .unset, .unset, .unset] [(.int g)]))) st1 ?_
  refine Wp.back (U' := (T1.setTop (mkF m 18 #[.val (.ref pk), .val (.ref ce), .val (.ref io), .val (.int off), .val (.int i), .val (.long (0 : Int64)), .second, .unset, .unset, .unset, .unset, .unset, .unset, .unset, .unset] [(.ref ce), (.int g)]))) (fun t k => XS.aloadN X1.here hx rfl (hb hby d6_17) rfl rfl k) ?_
  have vq2 := H2
  obtain ⟨cl2, Ar2, -, qs2, qn2, -, -⟩ := vq2
  refine Wp.back (U' := (T1.setTop (mkF m 19 #[.val (.ref pk), .val (.ref ce), .val (.ref io), .val (.int off), .val (.int i), .val (.long (0 : Int64)), .second, .unset, .unset, .unset, .unset, .unset, .unset, .unset, .unset] [(.int n), (.int g)]))) (fun t k => X1.arraylength hx (by rw [e1]; exact Ar2.1) (State.isArrayOf_alike hZ.alike Ar2.2.1) (g := (mkF m 18 #[.val (.ref pk), .val (.ref ce), .val (.ref io), .val (.int off), .val (.int i), .val (.long (0 : Int64)), .second, .unset, .unset, .unset, .unset, .unset, .unset, .unset, .unset] [(.ref ce), (.int g)])) rfl rfl (hb hby d6_18) t (by rw [len_of qs2 qn2]; exact k)) ?_
  refine Wp.back (U' := (T1.setTop (mkF m 22 #[.val (.ref pk), .val (.ref ce), .val (.ref io), .val (.int off), .val (.int i), .val (.long (0 : Int64)), .second, .unset, .unset, .unset, .unset, .unset, .unset, .unset, .unset] [(.int (n - i)), (.int g)]))) (fun t k => XS.iload X1.here hx rfl (hb hby d6_19) rfl (XS.isub X1.here hx rfl (hb hby d6_21) rfl k)) ?_
  obtain ⟨_, _, ⟨T3, L3, k3, n3⟩, -, X3, ⟨Lc3, hQ3, l3, y3, z3⟩, st3⟩ := Jvm.LawKit.callS X1 hx (y := Y2) hown (mvT hZ (ow hw 53 rfl)) (mvT hZ (ow hw 54 rfl)) (mvT hZ (ow hw 55 rfl)) (mvT hZ (ow hw 56 rfl)) (by decide) (backOf (W := 0) (rm_f_min l Z a0 hw [] g (n - i) hA n0 Z0 ) hZ (ow hw 56 rfl) (ow hw 55 rfl) (by decide) (by decide)) (g := (mkF m 22 #[.val (.ref pk), .val (.ref ce), .val (.ref io), .val (.int off), .val (.int i), .val (.long (0 : Int64)), .second, .unset, .unset, .unset, .unset, .unset, .unset, .unset, .unset] [(.int (n - i)), (.int g)])) rfl (by rw [hml]; rfl) (argsL := [(.int g), (.int (n - i))]) (rest := []) (lenOf pd_1 rfl) rfl (Nat.le_of_eq rfl) (hb hby d6_22) (fun _ _ => ⟨rfl, e1, (by decide : 0 + 0 ≤ _), (by decide : 0 + 0 ≤ _)⟩)
  dsimp only [Pt.U, Pt.locs, Pt.cells, Pt.slots] at X3 l3 y3 z3 st3 hQ3
  subst l3 y3 z3
  obtain ⟨rfl, N3q, e3⟩ := hQ3
  have N3 := Fr.app N0 N3q
  refine Wp.back (U' := (T3.setTop (mkF m 25 #[.val (.ref pk), .val (.ref ce), .val (.ref io), .val (.int off), .val (.int i), .val (.long (0 : Int64)), .second, .unset, .unset, .unset, .unset, .unset, .unset, .unset, .unset] [(.int (f_min g (n - i)))]))) st3 ?_
  refine Wp.back (U' := (T3.setTop (mkF m 45 #[.val (.ref pk), .val (.ref ce), .val (.ref io), .val (.int off), .val (.int i), .val (.long (0 : Int64)), .second, .val (.int (f_min g (n - i))), .val (.int 0), .unset, .unset, .unset, .unset, .unset, .unset] [(.int (i + (0 : Int32))), (.ref ce), (.long (0 : Int64))]))) (fun t k => XS.istore X3.here hx rfl (hb hby d6_25) rfl (l' := #[.val (.ref pk), .val (.ref ce), .val (.ref io), .val (.int off), .val (.int i), .val (.long (0 : Int64)), .second, .val (.int (f_min g (n - i))), .unset, .unset, .unset, .unset, .unset, .unset, .unset]) rfl (XT.iconstV X3.here hx rfl 0 (hb hby d6_27) (by decide) (XS.istore X3.here hx rfl (hb hby d6_28) rfl (l' := #[.val (.ref pk), .val (.ref ce), .val (.ref io), .val (.int off), .val (.int i), .val (.long (0 : Int64)), .second, .val (.int (f_min g (n - i))), .val (.int 0), .unset, .unset, .unset, .unset, .unset, .unset]) rfl (XS.iload X3.here hx rfl (hb hby d6_30) rfl (XS.iload X3.here hx rfl (hb hby d6_32) rfl (XS.icmpNo X3.here hx rfl (hb hby d6_34) rfl (tlt hRA.1).2.1 (XS.lload X3.here hx rfl (hb hby d6_37) rfl (XS.aloadN X3.here hx rfl (hb hby d6_39) rfl rfl (XS.iload X3.here hx rfl (hb hby d6_40) rfl (XS.iload X3.here hx rfl (hb hby d6_42) rfl (XS.iadd X3.here hx rfl (hb hby d6_44) rfl k))))))))))) ?_
  have vq4 := H2
  obtain ⟨cl4, Ar4, qa4, qs4, qn4, qh4, qg4⟩ := vq4
  have hin4 : ¬ ((i + (0 : Int32)) < 0 ∨ cl4.slots.size ≤ ((i + (0 : Int32))).toNatClampNeg) := inb_of qs4 (hRA.2.2 (0 : Int32) (by decide) hRA.1).1
  have hat4 : cl4.slots[((i + (0 : Int32))).toNatClampNeg]? = some (.int (f (i + (0 : Int32)))) := Has.at qh4 hin4 (own_getC f (hRA.2.2 (0 : Int32) (by decide) hRA.1).2.1)
  refine Wp.back (U' := (T3.setTop (mkF m 46 #[.val (.ref pk), .val (.ref ce), .val (.ref io), .val (.int off), .val (.int i), .val (.long (0 : Int64)), .second, .val (.int (f_min g (n - i))), .val (.int 0), .unset, .unset, .unset, .unset, .unset, .unset] [(.int (f (i + (0 : Int32)))), (.long (0 : Int64))]))) (fun t k => X3.iaload hx (j := (i + (0 : Int32))) (v := (.int (f (i + (0 : Int32))))) (by rw [e3]; exact Ar4.1) (State.isArrayOf_alike hZ.alike Ar4.2.1) Ar4.2.2 hin4 hat4 (g := (mkF m 45 #[.val (.ref pk), .val (.ref ce), .val (.ref io), .val (.int off), .val (.int i), .val (.long (0 : Int64)), .second, .val (.int (f_min g (n - i))), .val (.int 0), .unset, .unset, .unset, .unset, .unset, .unset] [(.int (i + (0 : Int32))), (.ref ce), (.long (0 : Int64))])) rfl rfl (hb hby d6_45) t k) ?_
  refine Wp.back (U' := (T3.setTop (mkF m 48 #[.val (.ref pk), .val (.ref ce), .val (.ref io), .val (.int off), .val (.int i), .val (.long (0 : Int64)), .second, .val (.int (f_min g (n - i))), .val (.int 0), .unset, .unset, .unset, .unset, .unset, .unset] [(.ref pk), (.long ((f (i + (0 : Int32)))).toInt64), (.long (0 : Int64))]))) (fun t k => XS.i2l X3.here hx rfl (hb hby d6_46) rfl (XS.aloadN X3.here hx rfl (hb hby d6_47) rfl rfl k)) ?_
  obtain ⟨T5, X5, e5, st5⟩ := getF X3 hx hZ hown (host := "") (Or.inl (ow hw 14 rfl)) Via.refl e3 H1 (g := (mkF m 48 #[.val (.ref pk), .val (.ref ce), .val (.ref io), .val (.int off), .val (.int i), .val (.long (0 : Int64)), .second, .val (.int (f_min g (n - i))), .val (.int 0), .unset, .unset, .unset, .unset, .unset, .unset] [(.ref pk), (.long ((f (i + (0 : Int32)))).toInt64), (.long (0 : Int64))])) rfl rfl (hb hby d6_48)
  refine Wp.back (U' := (T5.setTop (mkF m 51 #[.val (.ref pk), .val (.ref ce), .val (.ref io), .val (.int off), .val (.int i), .val (.long (0 : Int64)), .second, .val (.int (f_min g (n - i))), .val (.int 0), .unset, .unset, .unset, .unset, .unset, .unset] [(.ref pw), (.long ((f (i + (0 : Int32)))).toInt64), (.long (0 : Int64))]))) st5 ?_
  refine Wp.back (U' := (T5.setTop (mkF m 53 #[.val (.ref pk), .val (.ref ce), .val (.ref io), .val (.int off), .val (.int i), .val (.long (0 : Int64)), .second, .val (.int (f_min g (n - i))), .val (.int 0), .unset, .unset, .unset, .unset, .unset, .unset] [(.int 0), (.ref pw), (.long ((f (i + (0 : Int32)))).toInt64), (.long (0 : Int64))]))) (fun t k => XS.iload X5.here hx rfl (hb hby d6_51) rfl k) ?_
  have vq6 := H3
  obtain ⟨cl6, Ar6, qa6, qs6, qn6, qh6, qg6⟩ := vq6
  have hin6 : ¬ ((0 : Int32) < 0 ∨ cl6.slots.size ≤ ((0 : Int32)).toNatClampNeg) := inb_of qs6 ⟨by decide, (hRA.2.2 (0 : Int32) (by decide) hRA.1).2.2⟩
  have hat6 : cl6.slots[((0 : Int32)).toNatClampNeg]? = some (.long (1 : Int64)) := Has.at qh6 hin6 rfl
  refine Wp.back (U' := (T5.setTop (mkF m 54 #[.val (.ref pk), .val (.ref ce), .val (.ref io), .val (.int off), .val (.int i), .val (.long (0 : Int64)), .second, .val (.int (f_min g (n - i))), .val (.int 0), .unset, .unset, .unset, .unset, .unset, .unset] [(.long (1 : Int64)), (.long ((f (i + (0 : Int32)))).toInt64), (.long (0 : Int64))]))) (fun t k => X5.laload hx (j := (0 : Int32)) (v := (.long (1 : Int64))) (by rw [e5]; exact Ar6.1) (State.isArrayOf_alike hZ.alike Ar6.2.1) Ar6.2.2 hin6 hat6 (g := (mkF m 53 #[.val (.ref pk), .val (.ref ce), .val (.ref io), .val (.int off), .val (.int i), .val (.long (0 : Int64)), .second, .val (.int (f_min g (n - i))), .val (.int 0), .unset, .unset, .unset, .unset, .unset, .unset] [(.int 0), (.ref pw), (.long ((f (i + (0 : Int32)))).toInt64), (.long (0 : Int64))])) rfl rfl (hb hby d6_53) t k) ?_
  refine Wp.back (U' := (T5.setTop (mkF m 34 #[.val (.ref pk), .val (.ref ce), .val (.ref io), .val (.int off), .val (.int i), .val (.long ((0 : Int64) + (((f (i + (0 : Int32)))).toInt64 * (1 : Int64)))), .second, .val (.int (f_min g (n - i))), .val (.int 1), .unset, .unset, .unset, .unset, .unset, .unset] [(.int (f_min g (n - i))), (.int 1)]))) (fun t k => XS.lmul X5.here hx rfl (hb hby d6_54) rfl (XS.ladd X5.here hx rfl (hb hby d6_55) rfl (XS.lstore X5.here hx rfl (hb hby d6_56) rfl (l' := #[.val (.ref pk), .val (.ref ce), .val (.ref io), .val (.int off), .val (.int i), .val (.long ((0 : Int64) + (((f (i + (0 : Int32)))).toInt64 * (1 : Int64)))), .second, .val (.int (f_min g (n - i))), .val (.int 0), .unset, .unset, .unset, .unset, .unset, .unset]) rfl (XT.iincV X5.here hx rfl 1 (hb hby d6_58) (by decide) rfl (l' := #[.val (.ref pk), .val (.ref ce), .val (.ref io), .val (.int off), .val (.int i), .val (.long ((0 : Int64) + (((f (i + (0 : Int32)))).toInt64 * (1 : Int64)))), .second, .val (.int (f_min g (n - i))), .val (.int 1), .unset, .unset, .unset, .unset, .unset, .unset]) rfl (XS.goto X5.here hx rfl (pc0 := 61) (pc' := 30) rfl (hb hby d6_61) (by decide) (by decide) (XS.iload X5.here hx rfl (hb hby d6_30) rfl (XS.iload X5.here hx rfl (hb hby d6_32) rfl k))))))) ?_
  by_cases c34_7 : (1 : Int32) < (f_min g (n - i))
  · refine Wp.back (U' := (T5.setTop (mkF m 45 #[.val (.ref pk), .val (.ref ce), .val (.ref io), .val (.int off), .val (.int i), .val (.long ((0 : Int64) + (((f (i + (0 : Int32)))).toInt64 * (1 : Int64)))), .second, .val (.int (f_min g (n - i))), .val (.int 1), .unset, .unset, .unset, .unset, .unset, .unset] [(.int (i + (1 : Int32))), (.ref ce), (.long ((0 : Int64) + (((f (i + (0 : Int32)))).toInt64 * (1 : Int64))))]))) (fun t k => XS.icmpNo X5.here hx rfl (hb hby d6_34) rfl (tlt c34_7).2.1 (XS.lload X5.here hx rfl (hb hby d6_37) rfl (XS.aloadN X5.here hx rfl (hb hby d6_39) rfl rfl (XS.iload X5.here hx rfl (hb hby d6_40) rfl (XS.iload X5.here hx rfl (hb hby d6_42) rfl (XS.iadd X5.here hx rfl (hb hby d6_44) rfl k)))))) ?_
    have vq8 := H2
    obtain ⟨cl8, Ar8, qa8, qs8, qn8, qh8, qg8⟩ := vq8
    have hin8 : ¬ ((i + (1 : Int32)) < 0 ∨ cl8.slots.size ≤ ((i + (1 : Int32))).toNatClampNeg) := inb_of qs8 (hRA.2.2 (1 : Int32) (by decide) c34_7).1
    have hat8 : cl8.slots[((i + (1 : Int32))).toNatClampNeg]? = some (.int (f (i + (1 : Int32)))) := Has.at qh8 hin8 (own_getC f (hRA.2.2 (1 : Int32) (by decide) c34_7).2.1)
    refine Wp.back (U' := (T5.setTop (mkF m 46 #[.val (.ref pk), .val (.ref ce), .val (.ref io), .val (.int off), .val (.int i), .val (.long ((0 : Int64) + (((f (i + (0 : Int32)))).toInt64 * (1 : Int64)))), .second, .val (.int (f_min g (n - i))), .val (.int 1), .unset, .unset, .unset, .unset, .unset, .unset] [(.int (f (i + (1 : Int32)))), (.long ((0 : Int64) + (((f (i + (0 : Int32)))).toInt64 * (1 : Int64))))]))) (fun t k => X5.iaload hx (j := (i + (1 : Int32))) (v := (.int (f (i + (1 : Int32))))) (by rw [e5]; exact Ar8.1) (State.isArrayOf_alike hZ.alike Ar8.2.1) Ar8.2.2 hin8 hat8 (g := (mkF m 45 #[.val (.ref pk), .val (.ref ce), .val (.ref io), .val (.int off), .val (.int i), .val (.long ((0 : Int64) + (((f (i + (0 : Int32)))).toInt64 * (1 : Int64)))), .second, .val (.int (f_min g (n - i))), .val (.int 1), .unset, .unset, .unset, .unset, .unset, .unset] [(.int (i + (1 : Int32))), (.ref ce), (.long ((0 : Int64) + (((f (i + (0 : Int32)))).toInt64 * (1 : Int64))))])) rfl rfl (hb hby d6_45) t k) ?_
    refine Wp.back (U' := (T5.setTop (mkF m 48 #[.val (.ref pk), .val (.ref ce), .val (.ref io), .val (.int off), .val (.int i), .val (.long ((0 : Int64) + (((f (i + (0 : Int32)))).toInt64 * (1 : Int64)))), .second, .val (.int (f_min g (n - i))), .val (.int 1), .unset, .unset, .unset, .unset, .unset, .unset] [(.ref pk), (.long ((f (i + (1 : Int32)))).toInt64), (.long ((0 : Int64) + (((f (i + (0 : Int32)))).toInt64 * (1 : Int64))))]))) (fun t k => XS.i2l X5.here hx rfl (hb hby d6_46) rfl (XS.aloadN X5.here hx rfl (hb hby d6_47) rfl rfl k)) ?_
    obtain ⟨T9, X9, e9, st9⟩ := getF X5 hx hZ hown (host := "") (Or.inl (ow hw 14 rfl)) Via.refl e5 H1 (g := (mkF m 48 #[.val (.ref pk), .val (.ref ce), .val (.ref io), .val (.int off), .val (.int i), .val (.long ((0 : Int64) + (((f (i + (0 : Int32)))).toInt64 * (1 : Int64)))), .second, .val (.int (f_min g (n - i))), .val (.int 1), .unset, .unset, .unset, .unset, .unset, .unset] [(.ref pk), (.long ((f (i + (1 : Int32)))).toInt64), (.long ((0 : Int64) + (((f (i + (0 : Int32)))).toInt64 * (1 : Int64))))])) rfl rfl (hb hby d6_48)
    refine Wp.back (U' := (T9.setTop (mkF m 51 #[.val (.ref pk), .val (.ref ce), .val (.ref io), .val (.int off), .val (.int i), .val (.long ((0 : Int64) + (((f (i + (0 : Int32)))).toInt64 * (1 : Int64)))), .second, .val (.int (f_min g (n - i))), .val (.int 1), .unset, .unset, .unset, .unset, .unset, .unset] [(.ref pw), (.long ((f (i + (1 : Int32)))).toInt64), (.long ((0 : Int64) + (((f (i + (0 : Int32)))).toInt64 * (1 : Int64))))]))) st9 ?_
    refine Wp.back (U' := (T9.setTop (mkF m 53 #[.val (.ref pk), .val (.ref ce), .val (.ref io), .val (.int off), .val (.int i), .val (.long ((0 : Int64) + (((f (i + (0 : Int32)))).toInt64 * (1 : Int64)))), .second, .val (.int (f_min g (n - i))), .val (.int 1), .unset, .unset, .unset, .unset, .unset, .unset] [(.int 1), (.ref pw), (.long ((f (i + (1 : Int32)))).toInt64), (.long ((0 : Int64) + (((f (i + (0 : Int32)))).toInt64 * (1 : Int64))))]))) (fun t k => XS.iload X9.here hx rfl (hb hby d6_51) rfl k) ?_
    have vq10 := H3
    obtain ⟨cl10, Ar10, qa10, qs10, qn10, qh10, qg10⟩ := vq10
    have hin10 : ¬ ((1 : Int32) < 0 ∨ cl10.slots.size ≤ ((1 : Int32)).toNatClampNeg) := inb_of qs10 ⟨by decide, (hRA.2.2 (1 : Int32) (by decide) c34_7).2.2⟩
    have hat10 : cl10.slots[((1 : Int32)).toNatClampNeg]? = some (.long ((1 : Int64) * (md).toInt64)) := Has.at qh10 hin10 rfl
    refine Wp.back (U' := (T9.setTop (mkF m 54 #[.val (.ref pk), .val (.ref ce), .val (.ref io), .val (.int off), .val (.int i), .val (.long ((0 : Int64) + (((f (i + (0 : Int32)))).toInt64 * (1 : Int64)))), .second, .val (.int (f_min g (n - i))), .val (.int 1), .unset, .unset, .unset, .unset, .unset, .unset] [(.long ((1 : Int64) * (md).toInt64)), (.long ((f (i + (1 : Int32)))).toInt64), (.long ((0 : Int64) + (((f (i + (0 : Int32)))).toInt64 * (1 : Int64))))]))) (fun t k => X9.laload hx (j := (1 : Int32)) (v := (.long ((1 : Int64) * (md).toInt64))) (by rw [e9]; exact Ar10.1) (State.isArrayOf_alike hZ.alike Ar10.2.1) Ar10.2.2 hin10 hat10 (g := (mkF m 53 #[.val (.ref pk), .val (.ref ce), .val (.ref io), .val (.int off), .val (.int i), .val (.long ((0 : Int64) + (((f (i + (0 : Int32)))).toInt64 * (1 : Int64)))), .second, .val (.int (f_min g (n - i))), .val (.int 1), .unset, .unset, .unset, .unset, .unset, .unset] [(.int 1), (.ref pw), (.long ((f (i + (1 : Int32)))).toInt64), (.long ((0 : Int64) + (((f (i + (0 : Int32)))).toInt64 * (1 : Int64))))])) rfl rfl (hb hby d6_53) t k) ?_
    refine Wp.back (U' := (T9.setTop (mkF m 34 #[.val (.ref pk), .val (.ref ce), .val (.ref io), .val (.int off), .val (.int i), .val (.long (((0 : Int64) + (((f (i + (0 : Int32)))).toInt64 * (1 : Int64))) + (((f (i + (1 : Int32)))).toInt64 * ((1 : Int64) * (md).toInt64)))), .second, .val (.int (f_min g (n - i))), .val (.int 2), .unset, .unset, .unset, .unset, .unset, .unset] [(.int (f_min g (n - i))), (.int 2)]))) (fun t k => XS.lmul X9.here hx rfl (hb hby d6_54) rfl (XS.ladd X9.here hx rfl (hb hby d6_55) rfl (XS.lstore X9.here hx rfl (hb hby d6_56) rfl (l' := #[.val (.ref pk), .val (.ref ce), .val (.ref io), .val (.int off), .val (.int i), .val (.long (((0 : Int64) + (((f (i + (0 : Int32)))).toInt64 * (1 : Int64))) + (((f (i + (1 : Int32)))).toInt64 * ((1 : Int64) * (md).toInt64)))), .second, .val (.int (f_min g (n - i))), .val (.int 1), .unset, .unset, .unset, .unset, .unset, .unset]) rfl (XT.iincV X9.here hx rfl 1 (hb hby d6_58) (by decide) rfl (l' := #[.val (.ref pk), .val (.ref ce), .val (.ref io), .val (.int off), .val (.int i), .val (.long (((0 : Int64) + (((f (i + (0 : Int32)))).toInt64 * (1 : Int64))) + (((f (i + (1 : Int32)))).toInt64 * ((1 : Int64) * (md).toInt64)))), .second, .val (.int (f_min g (n - i))), .val (.int 2), .unset, .unset, .unset, .unset, .unset, .unset]) rfl (XS.goto X9.here hx rfl (pc0 := 61) (pc' := 30) rfl (hb hby d6_61) (by decide) (by decide) (XS.iload X9.here hx rfl (hb hby d6_30) rfl (XS.iload X9.here hx rfl (hb hby d6_32) rfl k))))))) ?_
    by_cases c34_11 : (2 : Int32) < (f_min g (n - i))
    · refine Wp.back (U' := (T9.setTop (mkF m 45 #[.val (.ref pk), .val (.ref ce), .val (.ref io), .val (.int off), .val (.int i), .val (.long (((0 : Int64) + (((f (i + (0 : Int32)))).toInt64 * (1 : Int64))) + (((f (i + (1 : Int32)))).toInt64 * ((1 : Int64) * (md).toInt64)))), .second, .val (.int (f_min g (n - i))), .val (.int 2), .unset, .unset, .unset, .unset, .unset, .unset] [(.int (i + (2 : Int32))), (.ref ce), (.long (((0 : Int64) + (((f (i + (0 : Int32)))).toInt64 * (1 : Int64))) + (((f (i + (1 : Int32)))).toInt64 * ((1 : Int64) * (md).toInt64))))]))) (fun t k => XS.icmpNo X9.here hx rfl (hb hby d6_34) rfl (tlt c34_11).2.1 (XS.lload X9.here hx rfl (hb hby d6_37) rfl (XS.aloadN X9.here hx rfl (hb hby d6_39) rfl rfl (XS.iload X9.here hx rfl (hb hby d6_40) rfl (XS.iload X9.here hx rfl (hb hby d6_42) rfl (XS.iadd X9.here hx rfl (hb hby d6_44) rfl k)))))) ?_
      have vq12 := H2
      obtain ⟨cl12, Ar12, qa12, qs12, qn12, qh12, qg12⟩ := vq12
      have hin12 : ¬ ((i + (2 : Int32)) < 0 ∨ cl12.slots.size ≤ ((i + (2 : Int32))).toNatClampNeg) := inb_of qs12 (hRA.2.2 (2 : Int32) (by decide) c34_11).1
      have hat12 : cl12.slots[((i + (2 : Int32))).toNatClampNeg]? = some (.int (f (i + (2 : Int32)))) := Has.at qh12 hin12 (own_getC f (hRA.2.2 (2 : Int32) (by decide) c34_11).2.1)
      refine Wp.back (U' := (T9.setTop (mkF m 46 #[.val (.ref pk), .val (.ref ce), .val (.ref io), .val (.int off), .val (.int i), .val (.long (((0 : Int64) + (((f (i + (0 : Int32)))).toInt64 * (1 : Int64))) + (((f (i + (1 : Int32)))).toInt64 * ((1 : Int64) * (md).toInt64)))), .second, .val (.int (f_min g (n - i))), .val (.int 2), .unset, .unset, .unset, .unset, .unset, .unset] [(.int (f (i + (2 : Int32)))), (.long (((0 : Int64) + (((f (i + (0 : Int32)))).toInt64 * (1 : Int64))) + (((f (i + (1 : Int32)))).toInt64 * ((1 : Int64) * (md).toInt64))))]))) (fun t k => X9.iaload hx (j := (i + (2 : Int32))) (v := (.int (f (i + (2 : Int32))))) (by rw [e9]; exact Ar12.1) (State.isArrayOf_alike hZ.alike Ar12.2.1) Ar12.2.2 hin12 hat12 (g := (mkF m 45 #[.val (.ref pk), .val (.ref ce), .val (.ref io), .val (.int off), .val (.int i), .val (.long (((0 : Int64) + (((f (i + (0 : Int32)))).toInt64 * (1 : Int64))) + (((f (i + (1 : Int32)))).toInt64 * ((1 : Int64) * (md).toInt64)))), .second, .val (.int (f_min g (n - i))), .val (.int 2), .unset, .unset, .unset, .unset, .unset, .unset] [(.int (i + (2 : Int32))), (.ref ce), (.long (((0 : Int64) + (((f (i + (0 : Int32)))).toInt64 * (1 : Int64))) + (((f (i + (1 : Int32)))).toInt64 * ((1 : Int64) * (md).toInt64))))])) rfl rfl (hb hby d6_45) t k) ?_
      refine Wp.back (U' := (T9.setTop (mkF m 48 #[.val (.ref pk), .val (.ref ce), .val (.ref io), .val (.int off), .val (.int i), .val (.long (((0 : Int64) + (((f (i + (0 : Int32)))).toInt64 * (1 : Int64))) + (((f (i + (1 : Int32)))).toInt64 * ((1 : Int64) * (md).toInt64)))), .second, .val (.int (f_min g (n - i))), .val (.int 2), .unset, .unset, .unset, .unset, .unset, .unset] [(.ref pk), (.long ((f (i + (2 : Int32)))).toInt64), (.long (((0 : Int64) + (((f (i + (0 : Int32)))).toInt64 * (1 : Int64))) + (((f (i + (1 : Int32)))).toInt64 * ((1 : Int64) * (md).toInt64))))]))) (fun t k => XS.i2l X9.here hx rfl (hb hby d6_46) rfl (XS.aloadN X9.here hx rfl (hb hby d6_47) rfl rfl k)) ?_
      obtain ⟨T13, X13, e13, st13⟩ := getF X9 hx hZ hown (host := "") (Or.inl (ow hw 14 rfl)) Via.refl e9 H1 (g := (mkF m 48 #[.val (.ref pk), .val (.ref ce), .val (.ref io), .val (.int off), .val (.int i), .val (.long (((0 : Int64) + (((f (i + (0 : Int32)))).toInt64 * (1 : Int64))) + (((f (i + (1 : Int32)))).toInt64 * ((1 : Int64) * (md).toInt64)))), .second, .val (.int (f_min g (n - i))), .val (.int 2), .unset, .unset, .unset, .unset, .unset, .unset] [(.ref pk), (.long ((f (i + (2 : Int32)))).toInt64), (.long (((0 : Int64) + (((f (i + (0 : Int32)))).toInt64 * (1 : Int64))) + (((f (i + (1 : Int32)))).toInt64 * ((1 : Int64) * (md).toInt64))))])) rfl rfl (hb hby d6_48)
      refine Wp.back (U' := (T13.setTop (mkF m 51 #[.val (.ref pk), .val (.ref ce), .val (.ref io), .val (.int off), .val (.int i), .val (.long (((0 : Int64) + (((f (i + (0 : Int32)))).toInt64 * (1 : Int64))) + (((f (i + (1 : Int32)))).toInt64 * ((1 : Int64) * (md).toInt64)))), .second, .val (.int (f_min g (n - i))), .val (.int 2), .unset, .unset, .unset, .unset, .unset, .unset] [(.ref pw), (.long ((f (i + (2 : Int32)))).toInt64), (.long (((0 : Int64) + (((f (i + (0 : Int32)))).toInt64 * (1 : Int64))) + (((f (i + (1 : Int32)))).toInt64 * ((1 : Int64) * (md).toInt64))))]))) st13 ?_
      refine Wp.back (U' := (T13.setTop (mkF m 53 #[.val (.ref pk), .val (.ref ce), .val (.ref io), .val (.int off), .val (.int i), .val (.long (((0 : Int64) + (((f (i + (0 : Int32)))).toInt64 * (1 : Int64))) + (((f (i + (1 : Int32)))).toInt64 * ((1 : Int64) * (md).toInt64)))), .second, .val (.int (f_min g (n - i))), .val (.int 2), .unset, .unset, .unset, .unset, .unset, .unset] [(.int 2), (.ref pw), (.long ((f (i + (2 : Int32)))).toInt64), (.long (((0 : Int64) + (((f (i + (0 : Int32)))).toInt64 * (1 : Int64))) + (((f (i + (1 : Int32)))).toInt64 * ((1 : Int64) * (md).toInt64))))]))) (fun t k => XS.iload X13.here hx rfl (hb hby d6_51) rfl k) ?_
      have vq14 := H3
      obtain ⟨cl14, Ar14, qa14, qs14, qn14, qh14, qg14⟩ := vq14
      have hin14 : ¬ ((2 : Int32) < 0 ∨ cl14.slots.size ≤ ((2 : Int32)).toNatClampNeg) := inb_of qs14 ⟨by decide, (hRA.2.2 (2 : Int32) (by decide) c34_11).2.2⟩
      have hat14 : cl14.slots[((2 : Int32)).toNatClampNeg]? = some (.long (((1 : Int64) * (md).toInt64) * (md).toInt64)) := Has.at qh14 hin14 rfl
      refine Wp.back (U' := (T13.setTop (mkF m 54 #[.val (.ref pk), .val (.ref ce), .val (.ref io), .val (.int off), .val (.int i), .val (.long (((0 : Int64) + (((f (i + (0 : Int32)))).toInt64 * (1 : Int64))) + (((f (i + (1 : Int32)))).toInt64 * ((1 : Int64) * (md).toInt64)))), .second, .val (.int (f_min g (n - i))), .val (.int 2), .unset, .unset, .unset, .unset, .unset, .unset] [(.long (((1 : Int64) * (md).toInt64) * (md).toInt64)), (.long ((f (i + (2 : Int32)))).toInt64), (.long (((0 : Int64) + (((f (i + (0 : Int32)))).toInt64 * (1 : Int64))) + (((f (i + (1 : Int32)))).toInt64 * ((1 : Int64) * (md).toInt64))))]))) (fun t k => X13.laload hx (j := (2 : Int32)) (v := (.long (((1 : Int64) * (md).toInt64) * (md).toInt64))) (by rw [e13]; exact Ar14.1) (State.isArrayOf_alike hZ.alike Ar14.2.1) Ar14.2.2 hin14 hat14 (g := (mkF m 53 #[.val (.ref pk), .val (.ref ce), .val (.ref io), .val (.int off), .val (.int i), .val (.long (((0 : Int64) + (((f (i + (0 : Int32)))).toInt64 * (1 : Int64))) + (((f (i + (1 : Int32)))).toInt64 * ((1 : Int64) * (md).toInt64)))), .second, .val (.int (f_min g (n - i))), .val (.int 2), .unset, .unset, .unset, .unset, .unset, .unset] [(.int 2), (.ref pw), (.long ((f (i + (2 : Int32)))).toInt64), (.long (((0 : Int64) + (((f (i + (0 : Int32)))).toInt64 * (1 : Int64))) + (((f (i + (1 : Int32)))).toInt64 * ((1 : Int64) * (md).toInt64))))])) rfl rfl (hb hby d6_53) t k) ?_
      refine Wp.back (U' := (T13.setTop (mkF m 34 #[.val (.ref pk), .val (.ref ce), .val (.ref io), .val (.int off), .val (.int i), .val (.long ((((0 : Int64) + (((f (i + (0 : Int32)))).toInt64 * (1 : Int64))) + (((f (i + (1 : Int32)))).toInt64 * ((1 : Int64) * (md).toInt64))) + (((f (i + (2 : Int32)))).toInt64 * (((1 : Int64) * (md).toInt64) * (md).toInt64)))), .second, .val (.int (f_min g (n - i))), .val (.int 3), .unset, .unset, .unset, .unset, .unset, .unset] [(.int (f_min g (n - i))), (.int 3)]))) (fun t k => XS.lmul X13.here hx rfl (hb hby d6_54) rfl (XS.ladd X13.here hx rfl (hb hby d6_55) rfl (XS.lstore X13.here hx rfl (hb hby d6_56) rfl (l' := #[.val (.ref pk), .val (.ref ce), .val (.ref io), .val (.int off), .val (.int i), .val (.long ((((0 : Int64) + (((f (i + (0 : Int32)))).toInt64 * (1 : Int64))) + (((f (i + (1 : Int32)))).toInt64 * ((1 : Int64) * (md).toInt64))) + (((f (i + (2 : Int32)))).toInt64 * (((1 : Int64) * (md).toInt64) * (md).toInt64)))), .second, .val (.int (f_min g (n - i))), .val (.int 2), .unset, .unset, .unset, .unset, .unset, .unset]) rfl (XT.iincV X13.here hx rfl 1 (hb hby d6_58) (by decide) rfl (l' := #[.val (.ref pk), .val (.ref ce), .val (.ref io), .val (.int off), .val (.int i), .val (.long ((((0 : Int64) + (((f (i + (0 : Int32)))).toInt64 * (1 : Int64))) + (((f (i + (1 : Int32)))).toInt64 * ((1 : Int64) * (md).toInt64))) + (((f (i + (2 : Int32)))).toInt64 * (((1 : Int64) * (md).toInt64) * (md).toInt64)))), .second, .val (.int (f_min g (n - i))), .val (.int 3), .unset, .unset, .unset, .unset, .unset, .unset]) rfl (XS.goto X13.here hx rfl (pc0 := 61) (pc' := 30) rfl (hb hby d6_61) (by decide) (by decide) (XS.iload X13.here hx rfl (hb hby d6_30) rfl (XS.iload X13.here hx rfl (hb hby d6_32) rfl k))))))) ?_
      by_cases c34_15 : (3 : Int32) < (f_min g (n - i))
      · refine Wp.back (U' := (T13.setTop (mkF m 45 #[.val (.ref pk), .val (.ref ce), .val (.ref io), .val (.int off), .val (.int i), .val (.long ((((0 : Int64) + (((f (i + (0 : Int32)))).toInt64 * (1 : Int64))) + (((f (i + (1 : Int32)))).toInt64 * ((1 : Int64) * (md).toInt64))) + (((f (i + (2 : Int32)))).toInt64 * (((1 : Int64) * (md).toInt64) * (md).toInt64)))), .second, .val (.int (f_min g (n - i))), .val (.int 3), .unset, .unset, .unset, .unset, .unset, .unset] [(.int (i + (3 : Int32))), (.ref ce), (.long ((((0 : Int64) + (((f (i + (0 : Int32)))).toInt64 * (1 : Int64))) + (((f (i + (1 : Int32)))).toInt64 * ((1 : Int64) * (md).toInt64))) + (((f (i + (2 : Int32)))).toInt64 * (((1 : Int64) * (md).toInt64) * (md).toInt64))))]))) (fun t k => XS.icmpNo X13.here hx rfl (hb hby d6_34) rfl (tlt c34_15).2.1 (XS.lload X13.here hx rfl (hb hby d6_37) rfl (XS.aloadN X13.here hx rfl (hb hby d6_39) rfl rfl (XS.iload X13.here hx rfl (hb hby d6_40) rfl (XS.iload X13.here hx rfl (hb hby d6_42) rfl (XS.iadd X13.here hx rfl (hb hby d6_44) rfl k)))))) ?_
        have vq16 := H2
        obtain ⟨cl16, Ar16, qa16, qs16, qn16, qh16, qg16⟩ := vq16
        have hin16 : ¬ ((i + (3 : Int32)) < 0 ∨ cl16.slots.size ≤ ((i + (3 : Int32))).toNatClampNeg) := inb_of qs16 (hRA.2.2 (3 : Int32) (by decide) c34_15).1
        have hat16 : cl16.slots[((i + (3 : Int32))).toNatClampNeg]? = some (.int (f (i + (3 : Int32)))) := Has.at qh16 hin16 (own_getC f (hRA.2.2 (3 : Int32) (by decide) c34_15).2.1)
        refine Wp.back (U' := (T13.setTop (mkF m 46 #[.val (.ref pk), .val (.ref ce), .val (.ref io), .val (.int off), .val (.int i), .val (.long ((((0 : Int64) + (((f (i + (0 : Int32)))).toInt64 * (1 : Int64))) + (((f (i + (1 : Int32)))).toInt64 * ((1 : Int64) * (md).toInt64))) + (((f (i + (2 : Int32)))).toInt64 * (((1 : Int64) * (md).toInt64) * (md).toInt64)))), .second, .val (.int (f_min g (n - i))), .val (.int 3), .unset, .unset, .unset, .unset, .unset, .unset] [(.int (f (i + (3 : Int32)))), (.long ((((0 : Int64) + (((f (i + (0 : Int32)))).toInt64 * (1 : Int64))) + (((f (i + (1 : Int32)))).toInt64 * ((1 : Int64) * (md).toInt64))) + (((f (i + (2 : Int32)))).toInt64 * (((1 : Int64) * (md).toInt64) * (md).toInt64))))]))) (fun t k => X13.iaload hx (j := (i + (3 : Int32))) (v := (.int (f (i + (3 : Int32))))) (by rw [e13]; exact Ar16.1) (State.isArrayOf_alike hZ.alike Ar16.2.1) Ar16.2.2 hin16 hat16 (g := (mkF m 45 #[.val (.ref pk), .val (.ref ce), .val (.ref io), .val (.int off), .val (.int i), .val (.long ((((0 : Int64) + (((f (i + (0 : Int32)))).toInt64 * (1 : Int64))) + (((f (i + (1 : Int32)))).toInt64 * ((1 : Int64) * (md).toInt64))) + (((f (i + (2 : Int32)))).toInt64 * (((1 : Int64) * (md).toInt64) * (md).toInt64)))), .second, .val (.int (f_min g (n - i))), .val (.int 3), .unset, .unset, .unset, .unset, .unset, .unset] [(.int (i + (3 : Int32))), (.ref ce), (.long ((((0 : Int64) + (((f (i + (0 : Int32)))).toInt64 * (1 : Int64))) + (((f (i + (1 : Int32)))).toInt64 * ((1 : Int64) * (md).toInt64))) + (((f (i + (2 : Int32)))).toInt64 * (((1 : Int64) * (md).toInt64) * (md).toInt64))))])) rfl rfl (hb hby d6_45) t k) ?_
        refine Wp.back (U' := (T13.setTop (mkF m 48 #[.val (.ref pk), .val (.ref ce), .val (.ref io), .val (.int off), .val (.int i), .val (.long ((((0 : Int64) + (((f (i + (0 : Int32)))).toInt64 * (1 : Int64))) + (((f (i + (1 : Int32)))).toInt64 * ((1 : Int64) * (md).toInt64))) + (((f (i + (2 : Int32)))).toInt64 * (((1 : Int64) * (md).toInt64) * (md).toInt64)))), .second, .val (.int (f_min g (n - i))), .val (.int 3), .unset, .unset, .unset, .unset, .unset, .unset] [(.ref pk), (.long ((f (i + (3 : Int32)))).toInt64), (.long ((((0 : Int64) + (((f (i + (0 : Int32)))).toInt64 * (1 : Int64))) + (((f (i + (1 : Int32)))).toInt64 * ((1 : Int64) * (md).toInt64))) + (((f (i + (2 : Int32)))).toInt64 * (((1 : Int64) * (md).toInt64) * (md).toInt64))))]))) (fun t k => XS.i2l X13.here hx rfl (hb hby d6_46) rfl (XS.aloadN X13.here hx rfl (hb hby d6_47) rfl rfl k)) ?_
        obtain ⟨T17, X17, e17, st17⟩ := getF X13 hx hZ hown (host := "") (Or.inl (ow hw 14 rfl)) Via.refl e13 H1 (g := (mkF m 48 #[.val (.ref pk), .val (.ref ce), .val (.ref io), .val (.int off), .val (.int i), .val (.long ((((0 : Int64) + (((f (i + (0 : Int32)))).toInt64 * (1 : Int64))) + (((f (i + (1 : Int32)))).toInt64 * ((1 : Int64) * (md).toInt64))) + (((f (i + (2 : Int32)))).toInt64 * (((1 : Int64) * (md).toInt64) * (md).toInt64)))), .second, .val (.int (f_min g (n - i))), .val (.int 3), .unset, .unset, .unset, .unset, .unset, .unset] [(.ref pk), (.long ((f (i + (3 : Int32)))).toInt64), (.long ((((0 : Int64) + (((f (i + (0 : Int32)))).toInt64 * (1 : Int64))) + (((f (i + (1 : Int32)))).toInt64 * ((1 : Int64) * (md).toInt64))) + (((f (i + (2 : Int32)))).toInt64 * (((1 : Int64) * (md).toInt64) * (md).toInt64))))])) rfl rfl (hb hby d6_48)
        refine Wp.back (U' := (T17.setTop (mkF m 51 #[.val (.ref pk), .val (.ref ce), .val (.ref io), .val (.int off), .val (.int i), .val (.long ((((0 : Int64) + (((f (i + (0 : Int32)))).toInt64 * (1 : Int64))) + (((f (i + (1 : Int32)))).toInt64 * ((1 : Int64) * (md).toInt64))) + (((f (i + (2 : Int32)))).toInt64 * (((1 : Int64) * (md).toInt64) * (md).toInt64)))), .second, .val (.int (f_min g (n - i))), .val (.int 3), .unset, .unset, .unset, .unset, .unset, .unset] [(.ref pw), (.long ((f (i + (3 : Int32)))).toInt64), (.long ((((0 : Int64) + (((f (i + (0 : Int32)))).toInt64 * (1 : Int64))) + (((f (i + (1 : Int32)))).toInt64 * ((1 : Int64) * (md).toInt64))) + (((f (i + (2 : Int32)))).toInt64 * (((1 : Int64) * (md).toInt64) * (md).toInt64))))]))) st17 ?_
        refine Wp.back (U' := (T17.setTop (mkF m 53 #[.val (.ref pk), .val (.ref ce), .val (.ref io), .val (.int off), .val (.int i), .val (.long ((((0 : Int64) + (((f (i + (0 : Int32)))).toInt64 * (1 : Int64))) + (((f (i + (1 : Int32)))).toInt64 * ((1 : Int64) * (md).toInt64))) + (((f (i + (2 : Int32)))).toInt64 * (((1 : Int64) * (md).toInt64) * (md).toInt64)))), .second, .val (.int (f_min g (n - i))), .val (.int 3), .unset, .unset, .unset, .unset, .unset, .unset] [(.int 3), (.ref pw), (.long ((f (i + (3 : Int32)))).toInt64), (.long ((((0 : Int64) + (((f (i + (0 : Int32)))).toInt64 * (1 : Int64))) + (((f (i + (1 : Int32)))).toInt64 * ((1 : Int64) * (md).toInt64))) + (((f (i + (2 : Int32)))).toInt64 * (((1 : Int64) * (md).toInt64) * (md).toInt64))))]))) (fun t k => XS.iload X17.here hx rfl (hb hby d6_51) rfl k) ?_
        have vq18 := H3
        obtain ⟨cl18, Ar18, qa18, qs18, qn18, qh18, qg18⟩ := vq18
        have hin18 : ¬ ((3 : Int32) < 0 ∨ cl18.slots.size ≤ ((3 : Int32)).toNatClampNeg) := inb_of qs18 ⟨by decide, (hRA.2.2 (3 : Int32) (by decide) c34_15).2.2⟩
        have hat18 : cl18.slots[((3 : Int32)).toNatClampNeg]? = some (.long ((((1 : Int64) * (md).toInt64) * (md).toInt64) * (md).toInt64)) := Has.at qh18 hin18 rfl
        refine Wp.back (U' := (T17.setTop (mkF m 54 #[.val (.ref pk), .val (.ref ce), .val (.ref io), .val (.int off), .val (.int i), .val (.long ((((0 : Int64) + (((f (i + (0 : Int32)))).toInt64 * (1 : Int64))) + (((f (i + (1 : Int32)))).toInt64 * ((1 : Int64) * (md).toInt64))) + (((f (i + (2 : Int32)))).toInt64 * (((1 : Int64) * (md).toInt64) * (md).toInt64)))), .second, .val (.int (f_min g (n - i))), .val (.int 3), .unset, .unset, .unset, .unset, .unset, .unset] [(.long ((((1 : Int64) * (md).toInt64) * (md).toInt64) * (md).toInt64)), (.long ((f (i + (3 : Int32)))).toInt64), (.long ((((0 : Int64) + (((f (i + (0 : Int32)))).toInt64 * (1 : Int64))) + (((f (i + (1 : Int32)))).toInt64 * ((1 : Int64) * (md).toInt64))) + (((f (i + (2 : Int32)))).toInt64 * (((1 : Int64) * (md).toInt64) * (md).toInt64))))]))) (fun t k => X17.laload hx (j := (3 : Int32)) (v := (.long ((((1 : Int64) * (md).toInt64) * (md).toInt64) * (md).toInt64))) (by rw [e17]; exact Ar18.1) (State.isArrayOf_alike hZ.alike Ar18.2.1) Ar18.2.2 hin18 hat18 (g := (mkF m 53 #[.val (.ref pk), .val (.ref ce), .val (.ref io), .val (.int off), .val (.int i), .val (.long ((((0 : Int64) + (((f (i + (0 : Int32)))).toInt64 * (1 : Int64))) + (((f (i + (1 : Int32)))).toInt64 * ((1 : Int64) * (md).toInt64))) + (((f (i + (2 : Int32)))).toInt64 * (((1 : Int64) * (md).toInt64) * (md).toInt64)))), .second, .val (.int (f_min g (n - i))), .val (.int 3), .unset, .unset, .unset, .unset, .unset, .unset] [(.int 3), (.ref pw), (.long ((f (i + (3 : Int32)))).toInt64), (.long ((((0 : Int64) + (((f (i + (0 : Int32)))).toInt64 * (1 : Int64))) + (((f (i + (1 : Int32)))).toInt64 * ((1 : Int64) * (md).toInt64))) + (((f (i + (2 : Int32)))).toInt64 * (((1 : Int64) * (md).toInt64) * (md).toInt64))))])) rfl rfl (hb hby d6_53) t k) ?_
        refine Wp.back (U' := (T17.setTop (mkF m 64 #[.val (.ref pk), .val (.ref ce), .val (.ref io), .val (.int off), .val (.int i), .val (.long (((((0 : Int64) + (((f (i + (0 : Int32)))).toInt64 * (1 : Int64))) + (((f (i + (1 : Int32)))).toInt64 * ((1 : Int64) * (md).toInt64))) + (((f (i + (2 : Int32)))).toInt64 * (((1 : Int64) * (md).toInt64) * (md).toInt64))) + (((f (i + (3 : Int32)))).toInt64 * ((((1 : Int64) * (md).toInt64) * (md).toInt64) * (md).toInt64)))), .second, .val (.int (f_min g (n - i))), .val (.int 4), .unset, .unset, .unset, .unset, .unset, .unset] []))) (fun t k => XS.lmul X17.here hx rfl (hb hby d6_54) rfl (XS.ladd X17.here hx rfl (hb hby d6_55) rfl (XS.lstore X17.here hx rfl (hb hby d6_56) rfl (l' := #[.val (.ref pk), .val (.ref ce), .val (.ref io), .val (.int off), .val (.int i), .val (.long (((((0 : Int64) + (((f (i + (0 : Int32)))).toInt64 * (1 : Int64))) + (((f (i + (1 : Int32)))).toInt64 * ((1 : Int64) * (md).toInt64))) + (((f (i + (2 : Int32)))).toInt64 * (((1 : Int64) * (md).toInt64) * (md).toInt64))) + (((f (i + (3 : Int32)))).toInt64 * ((((1 : Int64) * (md).toInt64) * (md).toInt64) * (md).toInt64)))), .second, .val (.int (f_min g (n - i))), .val (.int 3), .unset, .unset, .unset, .unset, .unset, .unset]) rfl (XT.iincV X17.here hx rfl 1 (hb hby d6_58) (by decide) rfl (l' := #[.val (.ref pk), .val (.ref ce), .val (.ref io), .val (.int off), .val (.int i), .val (.long (((((0 : Int64) + (((f (i + (0 : Int32)))).toInt64 * (1 : Int64))) + (((f (i + (1 : Int32)))).toInt64 * ((1 : Int64) * (md).toInt64))) + (((f (i + (2 : Int32)))).toInt64 * (((1 : Int64) * (md).toInt64) * (md).toInt64))) + (((f (i + (3 : Int32)))).toInt64 * ((((1 : Int64) * (md).toInt64) * (md).toInt64) * (md).toInt64)))), .second, .val (.int (f_min g (n - i))), .val (.int 4), .unset, .unset, .unset, .unset, .unset, .unset]) rfl (XS.goto X17.here hx rfl (pc0 := 61) (pc' := 30) rfl (hb hby d6_61) (by decide) (by decide) (XS.iload X17.here hx rfl (hb hby d6_30) rfl (XS.iload X17.here hx rfl (hb hby d6_32) rfl (XS.icmpYes X17.here hx rfl (pc0 := 34) (pc' := 64) rfl (hb hby d6_34) rfl (flt hRA.2.1).2.1 (by decide) (by decide) k)))))))) ?_
        rw [show (((((0 : Int64) + (((f (i + (0 : Int32)))).toInt64 * (1 : Int64))) + (((f (i + (1 : Int32)))).toInt64 * ((1 : Int64) * (md).toInt64))) + (((f (i + (2 : Int32)))).toInt64 * (((1 : Int64) * (md).toInt64) * (md).toInt64))) + (((f (i + (3 : Int32)))).toInt64 * ((((1 : Int64) * (md).toInt64) * (md).toInt64) * (md).toInt64))) = (own_sum f md i (f_min g (n - i))) from by rw [own_sum, if_pos c34_7, if_pos c34_11, if_pos c34_15]]
        exact k T17 hA _ (4 : Int32) X17 e17 N3 (Keep.refl hA []) 
      · refine Wp.back (U' := (T13.setTop (mkF m 64 #[.val (.ref pk), .val (.ref ce), .val (.ref io), .val (.int off), .val (.int i), .val (.long ((((0 : Int64) + (((f (i + (0 : Int32)))).toInt64 * (1 : Int64))) + (((f (i + (1 : Int32)))).toInt64 * ((1 : Int64) * (md).toInt64))) + (((f (i + (2 : Int32)))).toInt64 * (((1 : Int64) * (md).toInt64) * (md).toInt64)))), .second, .val (.int (f_min g (n - i))), .val (.int 3), .unset, .unset, .unset, .unset, .unset, .unset] []))) (fun t k => XS.icmpYes X13.here hx rfl (pc0 := 34) (pc' := 64) rfl (hb hby d6_34) rfl (flt c34_15).2.1 (by decide) (by decide) k) ?_
        rw [show ((((0 : Int64) + (((f (i + (0 : Int32)))).toInt64 * (1 : Int64))) + (((f (i + (1 : Int32)))).toInt64 * ((1 : Int64) * (md).toInt64))) + (((f (i + (2 : Int32)))).toInt64 * (((1 : Int64) * (md).toInt64) * (md).toInt64))) = (own_sum f md i (f_min g (n - i))) from by rw [own_sum, if_pos c34_7, if_pos c34_11, if_neg c34_15]]
        exact k T13 hA _ (3 : Int32) X13 e13 N3 (Keep.refl hA []) 
    · refine Wp.back (U' := (T9.setTop (mkF m 64 #[.val (.ref pk), .val (.ref ce), .val (.ref io), .val (.int off), .val (.int i), .val (.long (((0 : Int64) + (((f (i + (0 : Int32)))).toInt64 * (1 : Int64))) + (((f (i + (1 : Int32)))).toInt64 * ((1 : Int64) * (md).toInt64)))), .second, .val (.int (f_min g (n - i))), .val (.int 2), .unset, .unset, .unset, .unset, .unset, .unset] []))) (fun t k => XS.icmpYes X9.here hx rfl (pc0 := 34) (pc' := 64) rfl (hb hby d6_34) rfl (flt c34_11).2.1 (by decide) (by decide) k) ?_
      rw [show (((0 : Int64) + (((f (i + (0 : Int32)))).toInt64 * (1 : Int64))) + (((f (i + (1 : Int32)))).toInt64 * ((1 : Int64) * (md).toInt64))) = (own_sum f md i (f_min g (n - i))) from by rw [own_sum, if_pos c34_7, if_neg c34_11]]
      exact k T9 hA _ (2 : Int32) X9 e9 N3 (Keep.refl hA []) 
  · refine Wp.back (U' := (T5.setTop (mkF m 64 #[.val (.ref pk), .val (.ref ce), .val (.ref io), .val (.int off), .val (.int i), .val (.long ((0 : Int64) + (((f (i + (0 : Int32)))).toInt64 * (1 : Int64)))), .second, .val (.int (f_min g (n - i))), .val (.int 1), .unset, .unset, .unset, .unset, .unset, .unset] []))) (fun t k => XS.icmpYes X5.here hx rfl (pc0 := 34) (pc' := 64) rfl (hb hby d6_34) rfl (flt c34_7).2.1 (by decide) (by decide) k) ?_
    rw [show ((0 : Int64) + (((f (i + (0 : Int32)))).toInt64 * (1 : Int64))) = (own_sum f md i (f_min g (n - i))) from by rw [own_sum, if_neg c34_7]]
    exact k T5 hA _ (1 : Int32) X5 e5 N3 (Keep.refl hA []) 
set_option maxRecDepth 65536 in
set_option maxHeartbeats 40000000 in
theorem own_pA1 {p : Program} {l : Launch} {e : Env} {s : State} {m : MethodId} {args : Array Value} {below : List Frame} {meth : Method} {c : Code} {T0 : State} {locs : List Loc} {Z : State} {a0 : Array Value} {hA : Heap} {n0 : Nat} (pk ce io pw : Addr) (kc kp : ClassId) (f : Int32 → Int32) (off i g n md : Int32) (q5 : Int64) (q7 : Int32) (q8 : Int64) (y10 y11 : Int32) (y12 : Int64) (y14 : Int32)
    (hx : p.tables.exec = Jvm.exec) (hw : ∀ d ∈ tables_1, d.before a0 Z = true) (hby : c.code = prog_4_method_7_code) (hml : c.maxLocals = 15) (hZ : Z.Warmed39 s.vm) (hown : s.vm.findClass "com/example/known_leaks/knownleaks/CellPacking" = some m.cls) (X0 : Stand p l e ({ frames := 1, cells := 0, slots := 0, locals := 15 } : Room) s m args below meth c T0 locs 0 0) (e0 : T0.heap = hA) (N0 : Fr n0 locs) (Z0 : n0 ≤ hA.size) (H0 : Fld Z hA pk "com/example/known_leaks/knownleaks/CellPacking" "cellsPerBlock" "I" (.int g)) (H1 : Fld Z hA pk "com/example/known_leaks/knownleaks/CellPacking" "powers" "[J" (.ref pw)) (H2 : Arv Z hA ce kc .int n (own_C f) (.int 0)) (H3 : Arv Z hA pw kp .long g (own_P md) (.long (0 : Int64))) (hRA : own_RA g n i) {G : Outcome → State → Prop}
    (k : ∀ (T' : State) (h' : Heap) (L' : List Loc) (y8 : Int32), Stand p l e ({ frames := 1, cells := 0, slots := 0, locals := 15 } : Room) s m args below meth c T' L' 0 0 → T'.heap = h' → Fr n0 L' → Keep hA h' [] → Wp p e below G (T'.setTop (mkF m 64 #[.val (.ref pk), .val (.ref ce), .val (.ref io), .val (.int off), .val (.int i), .val (.long (own_sum f md i (f_min g (n - i)))), .second, .val (.int (f_min g (n - i))), .val (.int y8), .unset, .val (.int y10), .val (.int y11), .val (.long y12), .second, .val (.int y14)] []))) :
    Wp p e below G (T0.setTop (mkF m 10 #[.val (.ref pk), .val (.ref ce), .val (.ref io), .val (.int off), .val (.int i), .val (.long q5), .second, .val (.int q7), .val (.long q8), .second, .val (.int y10), .val (.int y11), .val (.long y12), .second, .val (.int y14)] [])) := by
  refine Wp.back (U' := (T0.setTop (mkF m 14 #[.val (.ref pk), .val (.ref ce), .val (.ref io), .val (.int off), .val (.int i), .val (.long (0 : Int64)), .second, .val (.int q7), .val (.long q8), .second, .val (.int y10), .val (.int y11), .val (.long y12), .second, .val (.int y14)] [(.ref pk)]))) (fun t k => XT.lconstV X0.here hx rfl (0 : Int64) (hb hby d6_10) (by decide) (XS.lstore X0.here hx rfl (hb hby d6_11) rfl (l' := #[.val (.ref pk), .val (.ref ce), .val (.ref io), .val (.int off), .val (.int i), .val (.long (0 : Int64)), .second, .val (.int q7), .val (.long q8), .second, .val (.int y10), .val (.int y11), .val (.long y12), .second, .val (.int y14)]) rfl (XS.aloadN X0.here hx rfl (hb hby d6_13) rfl rfl k))) ?_
  obtain ⟨T1, X1, e1, st1⟩ := getF X0 hx hZ hown (host := "") (Or.inl (ow hw 19 rfl)) Via.refl e0 H0 (g := (mkF m 14 #[.val (.ref pk), .val (.ref ce), .val (.ref io), .val (.int off), .val (.int i), .val (.long (0 : Int64)), .second, .val (.int q7), .val (.long q8), .second, .val (.int y10), .val (.int y11), .val (.long y12), .second, .val (.int y14)] [(.ref pk)])) rfl rfl (hb hby d6_14)
  refine Wp.back (U' := (T1.setTop (mkF m 17 #[.val (.ref pk), .val (.ref ce), .val (.ref io), .val (.int off), .val (.int i), .val (.long (0 : Int64)), .second, .val (.int q7), .val (.long q8), .second, .val (.int y10), .val (.int y11), .val (.long y12), .second, .val (.int y14)] [(.int g)]))) st1 ?_
  refine Wp.back (U' := (T1.setTop (mkF m 18 #[.val (.ref pk), .val (.ref ce), .val (.ref io), .val (.int off), .val (.int i), .val (.long (0 : Int64)), .second, .val (.int q7), .val (.long q8), .second, .val (.int y10), .val (.int y11), .val (.long y12), .second, .val (.int y14)] [(.ref ce), (.int g)]))) (fun t k => XS.aloadN X1.here hx rfl (hb hby d6_17) rfl rfl k) ?_
  have vq2 := H2
  obtain ⟨cl2, Ar2, -, qs2, qn2, -, -⟩ := vq2
  refine Wp.back (U' := (T1.setTop (mkF m 19 #[.val (.ref pk), .val (.ref ce), .val (.ref io), .val (.int off), .val (.int i), .val (.long (0 : Int64)), .second, .val (.int q7), .val (.long q8), .second, .val (.int y10), .val (.int y11), .val (.long y12), .second, .val (.int y14)] [(.int n), (.int g)]))) (fun t k => X1.arraylength hx (by rw [e1]; exact Ar2.1) (State.isArrayOf_alike hZ.alike Ar2.2.1) (g := (mkF m 18 #[.val (.ref pk), .val (.ref ce), .val (.ref io), .val (.int off), .val (.int i), .val (.long (0 : Int64)), .second, .val (.int q7), .val (.long q8), .second, .val (.int y10), .val (.int y11), .val (.long y12), .second, .val (.int y14)] [(.ref ce), (.int g)])) rfl rfl (hb hby d6_18) t (by rw [len_of qs2 qn2]; exact k)) ?_
  refine Wp.back (U' := (T1.setTop (mkF m 22 #[.val (.ref pk), .val (.ref ce), .val (.ref io), .val (.int off), .val (.int i), .val (.long (0 : Int64)), .second, .val (.int q7), .val (.long q8), .second, .val (.int y10), .val (.int y11), .val (.long y12), .second, .val (.int y14)] [(.int (n - i)), (.int g)]))) (fun t k => XS.iload X1.here hx rfl (hb hby d6_19) rfl (XS.isub X1.here hx rfl (hb hby d6_21) rfl k)) ?_
  obtain ⟨_, _, ⟨T3, L3, k3, n3⟩, -, X3, ⟨Lc3, hQ3, l3, y3, z3⟩, st3⟩ := Jvm.LawKit.callS X1 hx (y := Y2) hown (mvT hZ (ow hw 53 rfl)) (mvT hZ (ow hw 54 rfl)) (mvT hZ (ow hw 55 rfl)) (mvT hZ (ow hw 56 rfl)) (by decide) (backOf (W := 0) (rm_f_min l Z a0 hw [] g (n - i) hA n0 Z0 ) hZ (ow hw 56 rfl) (ow hw 55 rfl) (by decide) (by decide)) (g := (mkF m 22 #[.val (.ref pk), .val (.ref ce), .val (.ref io), .val (.int off), .val (.int i), .val (.long (0 : Int64)), .second, .val (.int q7), .val (.long q8), .second, .val (.int y10), .val (.int y11), .val (.long y12), .second, .val (.int y14)] [(.int (n - i)), (.int g)])) rfl (by rw [hml]; rfl) (argsL := [(.int g), (.int (n - i))]) (rest := []) (lenOf pd_1 rfl) rfl (Nat.le_of_eq rfl) (hb hby d6_22) (fun _ _ => ⟨rfl, e1, (by decide : 0 + 0 ≤ _), (by decide : 0 + 0 ≤ _)⟩)
  dsimp only [Pt.U, Pt.locs, Pt.cells, Pt.slots] at X3 l3 y3 z3 st3 hQ3
  subst l3 y3 z3
  obtain ⟨rfl, N3q, e3⟩ := hQ3
  have N3 := Fr.app N0 N3q
  refine Wp.back (U' := (T3.setTop (mkF m 25 #[.val (.ref pk), .val (.ref ce), .val (.ref io), .val (.int off), .val (.int i), .val (.long (0 : Int64)), .second, .val (.int q7), .val (.long q8), .second, .val (.int y10), .val (.int y11), .val (.long y12), .second, .val (.int y14)] [(.int (f_min g (n - i)))]))) st3 ?_
  refine Wp.back (U' := (T3.setTop (mkF m 45 #[.val (.ref pk), .val (.ref ce), .val (.ref io), .val (.int off), .val (.int i), .val (.long (0 : Int64)), .second, .val (.int (f_min g (n - i))), .val (.int 0), .unset, .val (.int y10), .val (.int y11), .val (.long y12), .second, .val (.int y14)] [(.int (i + (0 : Int32))), (.ref ce), (.long (0 : Int64))]))) (fun t k => XS.istore X3.here hx rfl (hb hby d6_25) rfl (l' := #[.val (.ref pk), .val (.ref ce), .val (.ref io), .val (.int off), .val (.int i), .val (.long (0 : Int64)), .second, .val (.int (f_min g (n - i))), .val (.long q8), .second, .val (.int y10), .val (.int y11), .val (.long y12), .second, .val (.int y14)]) rfl (XT.iconstV X3.here hx rfl 0 (hb hby d6_27) (by decide) (XS.istore X3.here hx rfl (hb hby d6_28) rfl (l' := #[.val (.ref pk), .val (.ref ce), .val (.ref io), .val (.int off), .val (.int i), .val (.long (0 : Int64)), .second, .val (.int (f_min g (n - i))), .val (.int 0), .unset, .val (.int y10), .val (.int y11), .val (.long y12), .second, .val (.int y14)]) rfl (XS.iload X3.here hx rfl (hb hby d6_30) rfl (XS.iload X3.here hx rfl (hb hby d6_32) rfl (XS.icmpNo X3.here hx rfl (hb hby d6_34) rfl (tlt hRA.1).2.1 (XS.lload X3.here hx rfl (hb hby d6_37) rfl (XS.aloadN X3.here hx rfl (hb hby d6_39) rfl rfl (XS.iload X3.here hx rfl (hb hby d6_40) rfl (XS.iload X3.here hx rfl (hb hby d6_42) rfl (XS.iadd X3.here hx rfl (hb hby d6_44) rfl k))))))))))) ?_
  have vq4 := H2
  obtain ⟨cl4, Ar4, qa4, qs4, qn4, qh4, qg4⟩ := vq4
  have hin4 : ¬ ((i + (0 : Int32)) < 0 ∨ cl4.slots.size ≤ ((i + (0 : Int32))).toNatClampNeg) := inb_of qs4 (hRA.2.2 (0 : Int32) (by decide) hRA.1).1
  have hat4 : cl4.slots[((i + (0 : Int32))).toNatClampNeg]? = some (.int (f (i + (0 : Int32)))) := Has.at qh4 hin4 (own_getC f (hRA.2.2 (0 : Int32) (by decide) hRA.1).2.1)
  refine Wp.back (U' := (T3.setTop (mkF m 46 #[.val (.ref pk), .val (.ref ce), .val (.ref io), .val (.int off), .val (.int i), .val (.long (0 : Int64)), .second, .val (.int (f_min g (n - i))), .val (.int 0), .unset, .val (.int y10), .val (.int y11), .val (.long y12), .second, .val (.int y14)] [(.int (f (i + (0 : Int32)))), (.long (0 : Int64))]))) (fun t k => X3.iaload hx (j := (i + (0 : Int32))) (v := (.int (f (i + (0 : Int32))))) (by rw [e3]; exact Ar4.1) (State.isArrayOf_alike hZ.alike Ar4.2.1) Ar4.2.2 hin4 hat4 (g := (mkF m 45 #[.val (.ref pk), .val (.ref ce), .val (.ref io), .val (.int off), .val (.int i), .val (.long (0 : Int64)), .second, .val (.int (f_min g (n - i))), .val (.int 0), .unset, .val (.int y10), .val (.int y11), .val (.long y12), .second, .val (.int y14)] [(.int (i + (0 : Int32))), (.ref ce), (.long (0 : Int64))])) rfl rfl (hb hby d6_45) t k) ?_
  refine Wp.back (U' := (T3.setTop (mkF m 48 #[.val (.ref pk), .val (.ref ce), .val (.ref io), .val (.int off), .val (.int i), .val (.long (0 : Int64)), .second, .val (.int (f_min g (n - i))), .val (.int 0), .unset, .val (.int y10), .val (.int y11), .val (.long y12), .second, .val (.int y14)] [(.ref pk), (.long ((f (i + (0 : Int32)))).toInt64), (.long (0 : Int64))]))) (fun t k => XS.i2l X3.here hx rfl (hb hby d6_46) rfl (XS.aloadN X3.here hx rfl (hb hby d6_47) rfl rfl k)) ?_
  obtain ⟨T5, X5, e5, st5⟩ := getF X3 hx hZ hown (host := "") (Or.inl (ow hw 14 rfl)) Via.refl e3 H1 (g := (mkF m 48 #[.val (.ref pk), .val (.ref ce), .val (.ref io), .val (.int off), .val (.int i), .val (.long (0 : Int64)), .second, .val (.int (f_min g (n - i))), .val (.int 0), .unset, .val (.int y10), .val (.int y11), .val (.long y12), .second, .val (.int y14)] [(.ref pk), (.long ((f (i + (0 : Int32)))).toInt64), (.long (0 : Int64))])) rfl rfl (hb hby d6_48)
  refine Wp.back (U' := (T5.setTop (mkF m 51 #[.val (.ref pk), .val (.ref ce), .val (.ref io), .val (.int off), .val (.int i), .val (.long (0 : Int64)), .second, .val (.int (f_min g (n - i))), .val (.int 0), .unset, .val (.int y10), .val (.int y11), .val (.long y12), .second, .val (.int y14)] [(.ref pw), (.long ((f (i + (0 : Int32)))).toInt64), (.long (0 : Int64))]))) st5 ?_
  refine Wp.back (U' := (T5.setTop (mkF m 53 #[.val (.ref pk), .val (.ref ce), .val (.ref io), .val (.int off), .val (.int i), .val (.long (0 : Int64)), .second, .val (.int (f_min g (n - i))), .val (.int 0), .unset, .val (.int y10), .val (.int y11), .val (.long y12), .second, .val (.int y14)] [(.int 0), (.ref pw), (.long ((f (i + (0 : Int32)))).toInt64), (.long (0 : Int64))]))) (fun t k => XS.iload X5.here hx rfl (hb hby d6_51) rfl k) ?_
  have vq6 := H3
  obtain ⟨cl6, Ar6, qa6, qs6, qn6, qh6, qg6⟩ := vq6
  have hin6 : ¬ ((0 : Int32) < 0 ∨ cl6.slots.size ≤ ((0 : Int32)).toNatClampNeg) := inb_of qs6 ⟨by decide, (hRA.2.2 (0 : Int32) (by decide) hRA.1).2.2⟩
  have hat6 : cl6.slots[((0 : Int32)).toNatClampNeg]? = some (.long (1 : Int64)) := Has.at qh6 hin6 rfl
  refine Wp.back (U' := (T5.setTop (mkF m 54 #[.val (.ref pk), .val (.ref ce), .val (.ref io), .val (.int off), .val (.int i), .val (.long (0 : Int64)), .second, .val (.int (f_min g (n - i))), .val (.int 0), .unset, .val (.int y10), .val (.int y11), .val (.long y12), .second, .val (.int y14)] [(.long (1 : Int64)), (.long ((f (i + (0 : Int32)))).toInt64), (.long (0 : Int64))]))) (fun t k => X5.laload hx (j := (0 : Int32)) (v := (.long (1 : Int64))) (by rw [e5]; exact Ar6.1) (State.isArrayOf_alike hZ.alike Ar6.2.1) Ar6.2.2 hin6 hat6 (g := (mkF m 53 #[.val (.ref pk), .val (.ref ce), .val (.ref io), .val (.int off), .val (.int i), .val (.long (0 : Int64)), .second, .val (.int (f_min g (n - i))), .val (.int 0), .unset, .val (.int y10), .val (.int y11), .val (.long y12), .second, .val (.int y14)] [(.int 0), (.ref pw), (.long ((f (i + (0 : Int32)))).toInt64), (.long (0 : Int64))])) rfl rfl (hb hby d6_53) t k) ?_
  refine Wp.back (U' := (T5.setTop (mkF m 34 #[.val (.ref pk), .val (.ref ce), .val (.ref io), .val (.int off), .val (.int i), .val (.long ((0 : Int64) + (((f (i + (0 : Int32)))).toInt64 * (1 : Int64)))), .second, .val (.int (f_min g (n - i))), .val (.int 1), .unset, .val (.int y10), .val (.int y11), .val (.long y12), .second, .val (.int y14)] [(.int (f_min g (n - i))), (.int 1)]))) (fun t k => XS.lmul X5.here hx rfl (hb hby d6_54) rfl (XS.ladd X5.here hx rfl (hb hby d6_55) rfl (XS.lstore X5.here hx rfl (hb hby d6_56) rfl (l' := #[.val (.ref pk), .val (.ref ce), .val (.ref io), .val (.int off), .val (.int i), .val (.long ((0 : Int64) + (((f (i + (0 : Int32)))).toInt64 * (1 : Int64)))), .second, .val (.int (f_min g (n - i))), .val (.int 0), .unset, .val (.int y10), .val (.int y11), .val (.long y12), .second, .val (.int y14)]) rfl (XT.iincV X5.here hx rfl 1 (hb hby d6_58) (by decide) rfl (l' := #[.val (.ref pk), .val (.ref ce), .val (.ref io), .val (.int off), .val (.int i), .val (.long ((0 : Int64) + (((f (i + (0 : Int32)))).toInt64 * (1 : Int64)))), .second, .val (.int (f_min g (n - i))), .val (.int 1), .unset, .val (.int y10), .val (.int y11), .val (.long y12), .second, .val (.int y14)]) rfl (XS.goto X5.here hx rfl (pc0 := 61) (pc' := 30) rfl (hb hby d6_61) (by decide) (by decide) (XS.iload X5.here hx rfl (hb hby d6_30) rfl (XS.iload X5.here hx rfl (hb hby d6_32) rfl k))))))) ?_
  by_cases c34_7 : (1 : Int32) < (f_min g (n - i))
  · refine Wp.back (U' := (T5.setTop (mkF m 45 #[.val (.ref pk), .val (.ref ce), .val (.ref io), .val (.int off), .val (.int i), .val (.long ((0 : Int64) + (((f (i + (0 : Int32)))).toInt64 * (1 : Int64)))), .second, .val (.int (f_min g (n - i))), .val (.int 1), .unset, .val (.int y10), .val (.int y11), .val (.long y12), .second, .val (.int y14)] [(.int (i + (1 : Int32))), (.ref ce), (.long ((0 : Int64) + (((f (i + (0 : Int32)))).toInt64 * (1 : Int64))))]))) (fun t k => XS.icmpNo X5.here hx rfl (hb hby d6_34) rfl (tlt c34_7).2.1 (XS.lload X5.here hx rfl (hb hby d6_37) rfl (XS.aloadN X5.here hx rfl (hb hby d6_39) rfl rfl (XS.iload X5.here hx rfl (hb hby d6_40) rfl (XS.iload X5.here hx rfl (hb hby d6_42) rfl (XS.iadd X5.here hx rfl (hb hby d6_44) rfl k)))))) ?_
    have vq8 := H2
    obtain ⟨cl8, Ar8, qa8, qs8, qn8, qh8, qg8⟩ := vq8
    have hin8 : ¬ ((i + (1 : Int32)) < 0 ∨ cl8.slots.size ≤ ((i + (1 : Int32))).toNatClampNeg) := inb_of qs8 (hRA.2.2 (1 : Int32) (by decide) c34_7).1
    have hat8 : cl8.slots[((i + (1 : Int32))).toNatClampNeg]? = some (.int (f (i + (1 : Int32)))) := Has.at qh8 hin8 (own_getC f (hRA.2.2 (1 : Int32) (by decide) c34_7).2.1)
    refine Wp.back (U' := (T5.setTop (mkF m 46 #[.val (.ref pk), .val (.ref ce), .val (.ref io), .val (.int off), .val (.int i), .val (.long ((0 : Int64) + (((f (i + (0 : Int32)))).toInt64 * (1 : Int64)))), .second, .val (.int (f_min g (n - i))), .val (.int 1), .unset, .val (.int y10), .val (.int y11), .val (.long y12), .second, .val (.int y14)] [(.int (f (i + (1 : Int32)))), (.long ((0 : Int64) + (((f (i + (0 : Int32)))).toInt64 * (1 : Int64))))]))) (fun t k => X5.iaload hx (j := (i + (1 : Int32))) (v := (.int (f (i + (1 : Int32))))) (by rw [e5]; exact Ar8.1) (State.isArrayOf_alike hZ.alike Ar8.2.1) Ar8.2.2 hin8 hat8 (g := (mkF m 45 #[.val (.ref pk), .val (.ref ce), .val (.ref io), .val (.int off), .val (.int i), .val (.long ((0 : Int64) + (((f (i + (0 : Int32)))).toInt64 * (1 : Int64)))), .second, .val (.int (f_min g (n - i))), .val (.int 1), .unset, .val (.int y10), .val (.int y11), .val (.long y12), .second, .val (.int y14)] [(.int (i + (1 : Int32))), (.ref ce), (.long ((0 : Int64) + (((f (i + (0 : Int32)))).toInt64 * (1 : Int64))))])) rfl rfl (hb hby d6_45) t k) ?_
    refine Wp.back (U' := (T5.setTop (mkF m 48 #[.val (.ref pk), .val (.ref ce), .val (.ref io), .val (.int off), .val (.int i), .val (.long ((0 : Int64) + (((f (i + (0 : Int32)))).toInt64 * (1 : Int64)))), .second, .val (.int (f_min g (n - i))), .val (.int 1), .unset, .val (.int y10), .val (.int y11), .val (.long y12), .second, .val (.int y14)] [(.ref pk), (.long ((f (i + (1 : Int32)))).toInt64), (.long ((0 : Int64) + (((f (i + (0 : Int32)))).toInt64 * (1 : Int64))))]))) (fun t k => XS.i2l X5.here hx rfl (hb hby d6_46) rfl (XS.aloadN X5.here hx rfl (hb hby d6_47) rfl rfl k)) ?_
    obtain ⟨T9, X9, e9, st9⟩ := getF X5 hx hZ hown (host := "") (Or.inl (ow hw 14 rfl)) Via.refl e5 H1 (g := (mkF m 48 #[.val (.ref pk), .val (.ref ce), .val (.ref io), .val (.int off), .val (.int i), .val (.long ((0 : Int64) + (((f (i + (0 : Int32)))).toInt64 * (1 : Int64)))), .second, .val (.int (f_min g (n - i))), .val (.int 1), .unset, .val (.int y10), .val (.int y11), .val (.long y12), .second, .val (.int y14)] [(.ref pk), (.long ((f (i + (1 : Int32)))).toInt64), (.long ((0 : Int64) + (((f (i + (0 : Int32)))).toInt64 * (1 : Int64))))])) rfl rfl (hb hby d6_48)
    refine Wp.back (U' := (T9.setTop (mkF m 51 #[.val (.ref pk), .val (.ref ce), .val (.ref io), .val (.int off), .val (.int i), .val (.long ((0 : Int64) + (((f (i + (0 : Int32)))).toInt64 * (1 : Int64)))), .second, .val (.int (f_min g (n - i))), .val (.int 1), .unset, .val (.int y10), .val (.int y11), .val (.long y12), .second, .val (.int y14)] [(.ref pw), (.long ((f (i + (1 : Int32)))).toInt64), (.long ((0 : Int64) + (((f (i + (0 : Int32)))).toInt64 * (1 : Int64))))]))) st9 ?_
    refine Wp.back (U' := (T9.setTop (mkF m 53 #[.val (.ref pk), .val (.ref ce), .val (.ref io), .val (.int off), .val (.int i), .val (.long ((0 : Int64) + (((f (i + (0 : Int32)))).toInt64 * (1 : Int64)))), .second, .val (.int (f_min g (n - i))), .val (.int 1), .unset, .val (.int y10), .val (.int y11), .val (.long y12), .second, .val (.int y14)] [(.int 1), (.ref pw), (.long ((f (i + (1 : Int32)))).toInt64), (.long ((0 : Int64) + (((f (i + (0 : Int32)))).toInt64 * (1 : Int64))))]))) (fun t k => XS.iload X9.here hx rfl (hb hby d6_51) rfl k) ?_
    have vq10 := H3
    obtain ⟨cl10, Ar10, qa10, qs10, qn10, qh10, qg10⟩ := vq10
    have hin10 : ¬ ((1 : Int32) < 0 ∨ cl10.slots.size ≤ ((1 : Int32)).toNatClampNeg) := inb_of qs10 ⟨by decide, (hRA.2.2 (1 : Int32) (by decide) c34_7).2.2⟩
    have hat10 : cl10.slots[((1 : Int32)).toNatClampNeg]? = some (.long ((1 : Int64) * (md).toInt64)) := Has.at qh10 hin10 rfl
    refine Wp.back (U' := (T9.setTop (mkF m 54 #[.val (.ref pk), .val (.ref ce), .val (.ref io), .val (.int off), .val (.int i), .val (.long ((0 : Int64) + (((f (i + (0 : Int32)))).toInt64 * (1 : Int64)))), .second, .val (.int (f_min g (n - i))), .val (.int 1), .unset, .val (.int y10), .val (.int y11), .val (.long y12), .second, .val (.int y14)] [(.long ((1 : Int64) * (md).toInt64)), (.long ((f (i + (1 : Int32)))).toInt64), (.long ((0 : Int64) + (((f (i + (0 : Int32)))).toInt64 * (1 : Int64))))]))) (fun t k => X9.laload hx (j := (1 : Int32)) (v := (.long ((1 : Int64) * (md).toInt64))) (by rw [e9]; exact Ar10.1) (State.isArrayOf_alike hZ.alike Ar10.2.1) Ar10.2.2 hin10 hat10 (g := (mkF m 53 #[.val (.ref pk), .val (.ref ce), .val (.ref io), .val (.int off), .val (.int i), .val (.long ((0 : Int64) + (((f (i + (0 : Int32)))).toInt64 * (1 : Int64)))), .second, .val (.int (f_min g (n - i))), .val (.int 1), .unset, .val (.int y10), .val (.int y11), .val (.long y12), .second, .val (.int y14)] [(.int 1), (.ref pw), (.long ((f (i + (1 : Int32)))).toInt64), (.long ((0 : Int64) + (((f (i + (0 : Int32)))).toInt64 * (1 : Int64))))])) rfl rfl (hb hby d6_53) t k) ?_
    refine Wp.back (U' := (T9.setTop (mkF m 34 #[.val (.ref pk), .val (.ref ce), .val (.ref io), .val (.int off), .val (.int i), .val (.long (((0 : Int64) + (((f (i + (0 : Int32)))).toInt64 * (1 : Int64))) + (((f (i + (1 : Int32)))).toInt64 * ((1 : Int64) * (md).toInt64)))), .second, .val (.int (f_min g (n - i))), .val (.int 2), .unset, .val (.int y10), .val (.int y11), .val (.long y12), .second, .val (.int y14)] [(.int (f_min g (n - i))), (.int 2)]))) (fun t k => XS.lmul X9.here hx rfl (hb hby d6_54) rfl (XS.ladd X9.here hx rfl (hb hby d6_55) rfl (XS.lstore X9.here hx rfl (hb hby d6_56) rfl (l' := #[.val (.ref pk), .val (.ref ce), .val (.ref io), .val (.int off), .val (.int i), .val (.long (((0 : Int64) + (((f (i + (0 : Int32)))).toInt64 * (1 : Int64))) + (((f (i + (1 : Int32)))).toInt64 * ((1 : Int64) * (md).toInt64)))), .second, .val (.int (f_min g (n - i))), .val (.int 1), .unset, .val (.int y10), .val (.int y11), .val (.long y12), .second, .val (.int y14)]) rfl (XT.iincV X9.here hx rfl 1 (hb hby d6_58) (by decide) rfl (l' := #[.val (.ref pk), .val (.ref ce), .val (.ref io), .val (.int off), .val (.int i), .val (.long (((0 : Int64) + (((f (i + (0 : Int32)))).toInt64 * (1 : Int64))) + (((f (i + (1 : Int32)))).toInt64 * ((1 : Int64) * (md).toInt64)))), .second, .val (.int (f_min g (n - i))), .val (.int 2), .unset, .val (.int y10), .val (.int y11), .val (.long y12), .second, .val (.int y14)]) rfl (XS.goto X9.here hx rfl (pc0 := 61) (pc' := 30) rfl (hb hby d6_61) (by decide) (by decide) (XS.iload X9.here hx rfl (hb hby d6_30) rfl (XS.iload X9.here hx rfl (hb hby d6_32) rfl k))))))) ?_
    by_cases c34_11 : (2 : Int32) < (f_min g (n - i))
    · refine Wp.back (U' := (T9.setTop (mkF m 45 #[.val (.ref pk), .val (.ref ce), .val (.ref io), .val (.int off), .val (.int i), .val (.long (((0 : Int64) + (((f (i + (0 : Int32)))).toInt64 * (1 : Int64))) + (((f (i + (1 : Int32)))).toInt64 * ((1 : Int64) * (md).toInt64)))), .second, .val (.int (f_min g (n - i))), .val (.int 2), .unset, .val (.int y10), .val (.int y11), .val (.long y12), .second, .val (.int y14)] [(.int (i + (2 : Int32))), (.ref ce), (.long (((0 : Int64) + (((f (i + (0 : Int32)))).toInt64 * (1 : Int64))) + (((f (i + (1 : Int32)))).toInt64 * ((1 : Int64) * (md).toInt64))))]))) (fun t k => XS.icmpNo X9.here hx rfl (hb hby d6_34) rfl (tlt c34_11).2.1 (XS.lload X9.here hx rfl (hb hby d6_37) rfl (XS.aloadN X9.here hx rfl (hb hby d6_39) rfl rfl (XS.iload X9.here hx rfl (hb hby d6_40) rfl (XS.iload X9.here hx rfl (hb hby d6_42) rfl (XS.iadd X9.here hx rfl (hb hby d6_44) rfl k)))))) ?_
      have vq12 := H2
      obtain ⟨cl12, Ar12, qa12, qs12, qn12, qh12, qg12⟩ := vq12
      have hin12 : ¬ ((i + (2 : Int32)) < 0 ∨ cl12.slots.size ≤ ((i + (2 : Int32))).toNatClampNeg) := inb_of qs12 (hRA.2.2 (2 : Int32) (by decide) c34_11).1
      have hat12 : cl12.slots[((i + (2 : Int32))).toNatClampNeg]? = some (.int (f (i + (2 : Int32)))) := Has.at qh12 hin12 (own_getC f (hRA.2.2 (2 : Int32) (by decide) c34_11).2.1)
      refine Wp.back (U' := (T9.setTop (mkF m 46 #[.val (.ref pk), .val (.ref ce), .val (.ref io), .val (.int off), .val (.int i), .val (.long (((0 : Int64) + (((f (i + (0 : Int32)))).toInt64 * (1 : Int64))) + (((f (i + (1 : Int32)))).toInt64 * ((1 : Int64) * (md).toInt64)))), .second, .val (.int (f_min g (n - i))), .val (.int 2), .unset, .val (.int y10), .val (.int y11), .val (.long y12), .second, .val (.int y14)] [(.int (f (i + (2 : Int32)))), (.long (((0 : Int64) + (((f (i + (0 : Int32)))).toInt64 * (1 : Int64))) + (((f (i + (1 : Int32)))).toInt64 * ((1 : Int64) * (md).toInt64))))]))) (fun t k => X9.iaload hx (j := (i + (2 : Int32))) (v := (.int (f (i + (2 : Int32))))) (by rw [e9]; exact Ar12.1) (State.isArrayOf_alike hZ.alike Ar12.2.1) Ar12.2.2 hin12 hat12 (g := (mkF m 45 #[.val (.ref pk), .val (.ref ce), .val (.ref io), .val (.int off), .val (.int i), .val (.long (((0 : Int64) + (((f (i + (0 : Int32)))).toInt64 * (1 : Int64))) + (((f (i + (1 : Int32)))).toInt64 * ((1 : Int64) * (md).toInt64)))), .second, .val (.int (f_min g (n - i))), .val (.int 2), .unset, .val (.int y10), .val (.int y11), .val (.long y12), .second, .val (.int y14)] [(.int (i + (2 : Int32))), (.ref ce), (.long (((0 : Int64) + (((f (i + (0 : Int32)))).toInt64 * (1 : Int64))) + (((f (i + (1 : Int32)))).toInt64 * ((1 : Int64) * (md).toInt64))))])) rfl rfl (hb hby d6_45) t k) ?_
      refine Wp.back (U' := (T9.setTop (mkF m 48 #[.val (.ref pk), .val (.ref ce), .val (.ref io), .val (.int off), .val (.int i), .val (.long (((0 : Int64) + (((f (i + (0 : Int32)))).toInt64 * (1 : Int64))) + (((f (i + (1 : Int32)))).toInt64 * ((1 : Int64) * (md).toInt64)))), .second, .val (.int (f_min g (n - i))), .val (.int 2), .unset, .val (.int y10), .val (.int y11), .val (.long y12), .second, .val (.int y14)] [(.ref pk), (.long ((f (i + (2 : Int32)))).toInt64), (.long (((0 : Int64) + (((f (i + (0 : Int32)))).toInt64 * (1 : Int64))) + (((f (i + (1 : Int32)))).toInt64 * ((1 : Int64) * (md).toInt64))))]))) (fun t k => XS.i2l X9.here hx rfl (hb hby d6_46) rfl (XS.aloadN X9.here hx rfl (hb hby d6_47) rfl rfl k)) ?_
      obtain ⟨T13, X13, e13, st13⟩ := getF X9 hx hZ hown (host := "") (Or.inl (ow hw 14 rfl)) Via.refl e9 H1 (g := (mkF m 48 #[.val (.ref pk), .val (.ref ce), .val (.ref io), .val (.int off), .val (.int i), .val (.long (((0 : Int64) + (((f (i + (0 : Int32)))).toInt64 * (1 : Int64))) + (((f (i + (1 : Int32)))).toInt64 * ((1 : Int64) * (md).toInt64)))), .second, .val (.int (f_min g (n - i))), .val (.int 2), .unset, .val (.int y10), .val (.int y11), .val (.long y12), .second, .val (.int y14)] [(.ref pk), (.long ((f (i + (2 : Int32)))).toInt64), (.long (((0 : Int64) + (((f (i + (0 : Int32)))).toInt64 * (1 : Int64))) + (((f (i + (1 : Int32)))).toInt64 * ((1 : Int64) * (md).toInt64))))])) rfl rfl (hb hby d6_48)
      refine Wp.back (U' := (T13.setTop (mkF m 51 #[.val (.ref pk), .val (.ref ce), .val (.ref io), .val (.int off), .val (.int i), .val (.long (((0 : Int64) + (((f (i + (0 : Int32)))).toInt64 * (1 : Int64))) + (((f (i + (1 : Int32)))).toInt64 * ((1 : Int64) * (md).toInt64)))), .second, .val (.int (f_min g (n - i))), .val (.int 2), .unset, .val (.int y10), .val (.int y11), .val (.long y12), .second, .val (.int y14)] [(.ref pw), (.long ((f (i + (2 : Int32)))).toInt64), (.long (((0 : Int64) + (((f (i + (0 : Int32)))).toInt64 * (1 : Int64))) + (((f (i + (1 : Int32)))).toInt64 * ((1 : Int64) * (md).toInt64))))]))) st13 ?_
      refine Wp.back (U' := (T13.setTop (mkF m 53 #[.val (.ref pk), .val (.ref ce), .val (.ref io), .val (.int off), .val (.int i), .val (.long (((0 : Int64) + (((f (i + (0 : Int32)))).toInt64 * (1 : Int64))) + (((f (i + (1 : Int32)))).toInt64 * ((1 : Int64) * (md).toInt64)))), .second, .val (.int (f_min g (n - i))), .val (.int 2), .unset, .val (.int y10), .val (.int y11), .val (.long y12), .second, .val (.int y14)] [(.int 2), (.ref pw), (.long ((f (i + (2 : Int32)))).toInt64), (.long (((0 : Int64) + (((f (i + (0 : Int32)))).toInt64 * (1 : Int64))) + (((f (i + (1 : Int32)))).toInt64 * ((1 : Int64) * (md).toInt64))))]))) (fun t k => XS.iload X13.here hx rfl (hb hby d6_51) rfl k) ?_
      have vq14 := H3
      obtain ⟨cl14, Ar14, qa14, qs14, qn14, qh14, qg14⟩ := vq14
      have hin14 : ¬ ((2 : Int32) < 0 ∨ cl14.slots.size ≤ ((2 : Int32)).toNatClampNeg) := inb_of qs14 ⟨by decide, (hRA.2.2 (2 : Int32) (by decide) c34_11).2.2⟩
      have hat14 : cl14.slots[((2 : Int32)).toNatClampNeg]? = some (.long (((1 : Int64) * (md).toInt64) * (md).toInt64)) := Has.at qh14 hin14 rfl
      refine Wp.back (U' := (T13.setTop (mkF m 54 #[.val (.ref pk), .val (.ref ce), .val (.ref io), .val (.int off), .val (.int i), .val (.long (((0 : Int64) + (((f (i + (0 : Int32)))).toInt64 * (1 : Int64))) + (((f (i + (1 : Int32)))).toInt64 * ((1 : Int64) * (md).toInt64)))), .second, .val (.int (f_min g (n - i))), .val (.int 2), .unset, .val (.int y10), .val (.int y11), .val (.long y12), .second, .val (.int y14)] [(.long (((1 : Int64) * (md).toInt64) * (md).toInt64)), (.long ((f (i + (2 : Int32)))).toInt64), (.long (((0 : Int64) + (((f (i + (0 : Int32)))).toInt64 * (1 : Int64))) + (((f (i + (1 : Int32)))).toInt64 * ((1 : Int64) * (md).toInt64))))]))) (fun t k => X13.laload hx (j := (2 : Int32)) (v := (.long (((1 : Int64) * (md).toInt64) * (md).toInt64))) (by rw [e13]; exact Ar14.1) (State.isArrayOf_alike hZ.alike Ar14.2.1) Ar14.2.2 hin14 hat14 (g := (mkF m 53 #[.val (.ref pk), .val (.ref ce), .val (.ref io), .val (.int off), .val (.int i), .val (.long (((0 : Int64) + (((f (i + (0 : Int32)))).toInt64 * (1 : Int64))) + (((f (i + (1 : Int32)))).toInt64 * ((1 : Int64) * (md).toInt64)))), .second, .val (.int (f_min g (n - i))), .val (.int 2), .unset, .val (.int y10), .val (.int y11), .val (.long y12), .second, .val (.int y14)] [(.int 2), (.ref pw), (.long ((f (i + (2 : Int32)))).toInt64), (.long (((0 : Int64) + (((f (i + (0 : Int32)))).toInt64 * (1 : Int64))) + (((f (i + (1 : Int32)))).toInt64 * ((1 : Int64) * (md).toInt64))))])) rfl rfl (hb hby d6_53) t k) ?_
      refine Wp.back (U' := (T13.setTop (mkF m 34 #[.val (.ref pk), .val (.ref ce), .val (.ref io), .val (.int off), .val (.int i), .val (.long ((((0 : Int64) + (((f (i + (0 : Int32)))).toInt64 * (1 : Int64))) + (((f (i + (1 : Int32)))).toInt64 * ((1 : Int64) * (md).toInt64))) + (((f (i + (2 : Int32)))).toInt64 * (((1 : Int64) * (md).toInt64) * (md).toInt64)))), .second, .val (.int (f_min g (n - i))), .val (.int 3), .unset, .val (.int y10), .val (.int y11), .val (.long y12), .second, .val (.int y14)] [(.int (f_min g (n - i))), (.int 3)]))) (fun t k => XS.lmul X13.here hx rfl (hb hby d6_54) rfl (XS.ladd X13.here hx rfl (hb hby d6_55) rfl (XS.lstore X13.here hx rfl (hb hby d6_56) rfl (l' := #[.val (.ref pk), .val (.ref ce), .val (.ref io), .val (.int off), .val (.int i), .val (.long ((((0 : Int64) + (((f (i + (0 : Int32)))).toInt64 * (1 : Int64))) + (((f (i + (1 : Int32)))).toInt64 * ((1 : Int64) * (md).toInt64))) + (((f (i + (2 : Int32)))).toInt64 * (((1 : Int64) * (md).toInt64) * (md).toInt64)))), .second, .val (.int (f_min g (n - i))), .val (.int 2), .unset, .val (.int y10), .val (.int y11), .val (.long y12), .second, .val (.int y14)]) rfl (XT.iincV X13.here hx rfl 1 (hb hby d6_58) (by decide) rfl (l' := #[.val (.ref pk), .val (.ref ce), .val (.ref io), .val (.int off), .val (.int i), .val (.long ((((0 : Int64) + (((f (i + (0 : Int32)))).toInt64 * (1 : Int64))) + (((f (i + (1 : Int32)))).toInt64 * ((1 : Int64) * (md).toInt64))) + (((f (i + (2 : Int32)))).toInt64 * (((1 : Int64) * (md).toInt64) * (md).toInt64)))), .second, .val (.int (f_min g (n - i))), .val (.int 3), .unset, .val (.int y10), .val (.int y11), .val (.long y12), .second, .val (.int y14)]) rfl (XS.goto X13.here hx rfl (pc0 := 61) (pc' := 30) rfl (hb hby d6_61) (by decide) (by decide) (XS.iload X13.here hx rfl (hb hby d6_30) rfl (XS.iload X13.here hx rfl (hb hby d6_32) rfl k))))))) ?_
      by_cases c34_15 : (3 : Int32) < (f_min g (n - i))
      · refine Wp.back (U' := (T13.setTop (mkF m 45 #[.val (.ref pk), .val (.ref ce), .val (.ref io), .val (.int off), .val (.int i), .val (.long ((((0 : Int64) + (((f (i + (0 : Int32)))).toInt64 * (1 : Int64))) + (((f (i + (1 : Int32)))).toInt64 * ((1 : Int64) * (md).toInt64))) + (((f (i + (2 : Int32)))).toInt64 * (((1 : Int64) * (md).toInt64) * (md).toInt64)))), .second, .val (.int (f_min g (n - i))), .val (.int 3), .unset, .val (.int y10), .val (.int y11), .val (.long y12), .second, .val (.int y14)] [(.int (i + (3 : Int32))), (.ref ce), (.long ((((0 : Int64) + (((f (i + (0 : Int32)))).toInt64 * (1 : Int64))) + (((f (i + (1 : Int32)))).toInt64 * ((1 : Int64) * (md).toInt64))) + (((f (i + (2 : Int32)))).toInt64 * (((1 : Int64) * (md).toInt64) * (md).toInt64))))]))) (fun t k => XS.icmpNo X13.here hx rfl (hb hby d6_34) rfl (tlt c34_15).2.1 (XS.lload X13.here hx rfl (hb hby d6_37) rfl (XS.aloadN X13.here hx rfl (hb hby d6_39) rfl rfl (XS.iload X13.here hx rfl (hb hby d6_40) rfl (XS.iload X13.here hx rfl (hb hby d6_42) rfl (XS.iadd X13.here hx rfl (hb hby d6_44) rfl k)))))) ?_
        have vq16 := H2
        obtain ⟨cl16, Ar16, qa16, qs16, qn16, qh16, qg16⟩ := vq16
        have hin16 : ¬ ((i + (3 : Int32)) < 0 ∨ cl16.slots.size ≤ ((i + (3 : Int32))).toNatClampNeg) := inb_of qs16 (hRA.2.2 (3 : Int32) (by decide) c34_15).1
        have hat16 : cl16.slots[((i + (3 : Int32))).toNatClampNeg]? = some (.int (f (i + (3 : Int32)))) := Has.at qh16 hin16 (own_getC f (hRA.2.2 (3 : Int32) (by decide) c34_15).2.1)
        refine Wp.back (U' := (T13.setTop (mkF m 46 #[.val (.ref pk), .val (.ref ce), .val (.ref io), .val (.int off), .val (.int i), .val (.long ((((0 : Int64) + (((f (i + (0 : Int32)))).toInt64 * (1 : Int64))) + (((f (i + (1 : Int32)))).toInt64 * ((1 : Int64) * (md).toInt64))) + (((f (i + (2 : Int32)))).toInt64 * (((1 : Int64) * (md).toInt64) * (md).toInt64)))), .second, .val (.int (f_min g (n - i))), .val (.int 3), .unset, .val (.int y10), .val (.int y11), .val (.long y12), .second, .val (.int y14)] [(.int (f (i + (3 : Int32)))), (.long ((((0 : Int64) + (((f (i + (0 : Int32)))).toInt64 * (1 : Int64))) + (((f (i + (1 : Int32)))).toInt64 * ((1 : Int64) * (md).toInt64))) + (((f (i + (2 : Int32)))).toInt64 * (((1 : Int64) * (md).toInt64) * (md).toInt64))))]))) (fun t k => X13.iaload hx (j := (i + (3 : Int32))) (v := (.int (f (i + (3 : Int32))))) (by rw [e13]; exact Ar16.1) (State.isArrayOf_alike hZ.alike Ar16.2.1) Ar16.2.2 hin16 hat16 (g := (mkF m 45 #[.val (.ref pk), .val (.ref ce), .val (.ref io), .val (.int off), .val (.int i), .val (.long ((((0 : Int64) + (((f (i + (0 : Int32)))).toInt64 * (1 : Int64))) + (((f (i + (1 : Int32)))).toInt64 * ((1 : Int64) * (md).toInt64))) + (((f (i + (2 : Int32)))).toInt64 * (((1 : Int64) * (md).toInt64) * (md).toInt64)))), .second, .val (.int (f_min g (n - i))), .val (.int 3), .unset, .val (.int y10), .val (.int y11), .val (.long y12), .second, .val (.int y14)] [(.int (i + (3 : Int32))), (.ref ce), (.long ((((0 : Int64) + (((f (i + (0 : Int32)))).toInt64 * (1 : Int64))) + (((f (i + (1 : Int32)))).toInt64 * ((1 : Int64) * (md).toInt64))) + (((f (i + (2 : Int32)))).toInt64 * (((1 : Int64) * (md).toInt64) * (md).toInt64))))])) rfl rfl (hb hby d6_45) t k) ?_
        refine Wp.back (U' := (T13.setTop (mkF m 48 #[.val (.ref pk), .val (.ref ce), .val (.ref io), .val (.int off), .val (.int i), .val (.long ((((0 : Int64) + (((f (i + (0 : Int32)))).toInt64 * (1 : Int64))) + (((f (i + (1 : Int32)))).toInt64 * ((1 : Int64) * (md).toInt64))) + (((f (i + (2 : Int32)))).toInt64 * (((1 : Int64) * (md).toInt64) * (md).toInt64)))), .second, .val (.int (f_min g (n - i))), .val (.int 3), .unset, .val (.int y10), .val (.int y11), .val (.long y12), .second, .val (.int y14)] [(.ref pk), (.long ((f (i + (3 : Int32)))).toInt64), (.long ((((0 : Int64) + (((f (i + (0 : Int32)))).toInt64 * (1 : Int64))) + (((f (i + (1 : Int32)))).toInt64 * ((1 : Int64) * (md).toInt64))) + (((f (i + (2 : Int32)))).toInt64 * (((1 : Int64) * (md).toInt64) * (md).toInt64))))]))) (fun t k => XS.i2l X13.here hx rfl (hb hby d6_46) rfl (XS.aloadN X13.here hx rfl (hb hby d6_47) rfl rfl k)) ?_
        obtain ⟨T17, X17, e17, st17⟩ := getF X13 hx hZ hown (host := "") (Or.inl (ow hw 14 rfl)) Via.refl e13 H1 (g := (mkF m 48 #[.val (.ref pk), .val (.ref ce), .val (.ref io), .val (.int off), .val (.int i), .val (.long ((((0 : Int64) + (((f (i + (0 : Int32)))).toInt64 * (1 : Int64))) + (((f (i + (1 : Int32)))).toInt64 * ((1 : Int64) * (md).toInt64))) + (((f (i + (2 : Int32)))).toInt64 * (((1 : Int64) * (md).toInt64) * (md).toInt64)))), .second, .val (.int (f_min g (n - i))), .val (.int 3), .unset, .val (.int y10), .val (.int y11), .val (.long y12), .second, .val (.int y14)] [(.ref pk), (.long ((f (i + (3 : Int32)))).toInt64), (.long ((((0 : Int64) + (((f (i + (0 : Int32)))).toInt64 * (1 : Int64))) + (((f (i + (1 : Int32)))).toInt64 * ((1 : Int64) * (md).toInt64))) + (((f (i + (2 : Int32)))).toInt64 * (((1 : Int64) * (md).toInt64) * (md).toInt64))))])) rfl rfl (hb hby d6_48)
        refine Wp.back (U' := (T17.setTop (mkF m 51 #[.val (.ref pk), .val (.ref ce), .val (.ref io), .val (.int off), .val (.int i), .val (.long ((((0 : Int64) + (((f (i + (0 : Int32)))).toInt64 * (1 : Int64))) + (((f (i + (1 : Int32)))).toInt64 * ((1 : Int64) * (md).toInt64))) + (((f (i + (2 : Int32)))).toInt64 * (((1 : Int64) * (md).toInt64) * (md).toInt64)))), .second, .val (.int (f_min g (n - i))), .val (.int 3), .unset, .val (.int y10), .val (.int y11), .val (.long y12), .second, .val (.int y14)] [(.ref pw), (.long ((f (i + (3 : Int32)))).toInt64), (.long ((((0 : Int64) + (((f (i + (0 : Int32)))).toInt64 * (1 : Int64))) + (((f (i + (1 : Int32)))).toInt64 * ((1 : Int64) * (md).toInt64))) + (((f (i + (2 : Int32)))).toInt64 * (((1 : Int64) * (md).toInt64) * (md).toInt64))))]))) st17 ?_
        refine Wp.back (U' := (T17.setTop (mkF m 53 #[.val (.ref pk), .val (.ref ce), .val (.ref io), .val (.int off), .val (.int i), .val (.long ((((0 : Int64) + (((f (i + (0 : Int32)))).toInt64 * (1 : Int64))) + (((f (i + (1 : Int32)))).toInt64 * ((1 : Int64) * (md).toInt64))) + (((f (i + (2 : Int32)))).toInt64 * (((1 : Int64) * (md).toInt64) * (md).toInt64)))), .second, .val (.int (f_min g (n - i))), .val (.int 3), .unset, .val (.int y10), .val (.int y11), .val (.long y12), .second, .val (.int y14)] [(.int 3), (.ref pw), (.long ((f (i + (3 : Int32)))).toInt64), (.long ((((0 : Int64) + (((f (i + (0 : Int32)))).toInt64 * (1 : Int64))) + (((f (i + (1 : Int32)))).toInt64 * ((1 : Int64) * (md).toInt64))) + (((f (i + (2 : Int32)))).toInt64 * (((1 : Int64) * (md).toInt64) * (md).toInt64))))]))) (fun t k => XS.iload X17.here hx rfl (hb hby d6_51) rfl k) ?_
        have vq18 := H3
        obtain ⟨cl18, Ar18, qa18, qs18, qn18, qh18, qg18⟩ := vq18
        have hin18 : ¬ ((3 : Int32) < 0 ∨ cl18.slots.size ≤ ((3 : Int32)).toNatClampNeg) := inb_of qs18 ⟨by decide, (hRA.2.2 (3 : Int32) (by decide) c34_15).2.2⟩
        have hat18 : cl18.slots[((3 : Int32)).toNatClampNeg]? = some (.long ((((1 : Int64) * (md).toInt64) * (md).toInt64) * (md).toInt64)) := Has.at qh18 hin18 rfl
        refine Wp.back (U' := (T17.setTop (mkF m 54 #[.val (.ref pk), .val (.ref ce), .val (.ref io), .val (.int off), .val (.int i), .val (.long ((((0 : Int64) + (((f (i + (0 : Int32)))).toInt64 * (1 : Int64))) + (((f (i + (1 : Int32)))).toInt64 * ((1 : Int64) * (md).toInt64))) + (((f (i + (2 : Int32)))).toInt64 * (((1 : Int64) * (md).toInt64) * (md).toInt64)))), .second, .val (.int (f_min g (n - i))), .val (.int 3), .unset, .val (.int y10), .val (.int y11), .val (.long y12), .second, .val (.int y14)] [(.long ((((1 : Int64) * (md).toInt64) * (md).toInt64) * (md).toInt64)), (.long ((f (i + (3 : Int32)))).toInt64), (.long ((((0 : Int64) + (((f (i + (0 : Int32)))).toInt64 * (1 : Int64))) + (((f (i + (1 : Int32)))).toInt64 * ((1 : Int64) * (md).toInt64))) + (((f (i + (2 : Int32)))).toInt64 * (((1 : Int64) * (md).toInt64) * (md).toInt64))))]))) (fun t k => X17.laload hx (j := (3 : Int32)) (v := (.long ((((1 : Int64) * (md).toInt64) * (md).toInt64) * (md).toInt64))) (by rw [e17]; exact Ar18.1) (State.isArrayOf_alike hZ.alike Ar18.2.1) Ar18.2.2 hin18 hat18 (g := (mkF m 53 #[.val (.ref pk), .val (.ref ce), .val (.ref io), .val (.int off), .val (.int i), .val (.long ((((0 : Int64) + (((f (i + (0 : Int32)))).toInt64 * (1 : Int64))) + (((f (i + (1 : Int32)))).toInt64 * ((1 : Int64) * (md).toInt64))) + (((f (i + (2 : Int32)))).toInt64 * (((1 : Int64) * (md).toInt64) * (md).toInt64)))), .second, .val (.int (f_min g (n - i))), .val (.int 3), .unset, .val (.int y10), .val (.int y11), .val (.long y12), .second, .val (.int y14)] [(.int 3), (.ref pw), (.long ((f (i + (3 : Int32)))).toInt64), (.long ((((0 : Int64) + (((f (i + (0 : Int32)))).toInt64 * (1 : Int64))) + (((f (i + (1 : Int32)))).toInt64 * ((1 : Int64) * (md).toInt64))) + (((f (i + (2 : Int32)))).toInt64 * (((1 : Int64) * (md).toInt64) * (md).toInt64))))])) rfl rfl (hb hby d6_53) t k) ?_
        refine Wp.back (U' := (T17.setTop (mkF m 64 #[.val (.ref pk), .val (.ref ce), .val (.ref io), .val (.int off), .val (.int i), .val (.long (((((0 : Int64) + (((f (i + (0 : Int32)))).toInt64 * (1 : Int64))) + (((f (i + (1 : Int32)))).toInt64 * ((1 : Int64) * (md).toInt64))) + (((f (i + (2 : Int32)))).toInt64 * (((1 : Int64) * (md).toInt64) * (md).toInt64))) + (((f (i + (3 : Int32)))).toInt64 * ((((1 : Int64) * (md).toInt64) * (md).toInt64) * (md).toInt64)))), .second, .val (.int (f_min g (n - i))), .val (.int 4), .unset, .val (.int y10), .val (.int y11), .val (.long y12), .second, .val (.int y14)] []))) (fun t k => XS.lmul X17.here hx rfl (hb hby d6_54) rfl (XS.ladd X17.here hx rfl (hb hby d6_55) rfl (XS.lstore X17.here hx rfl (hb hby d6_56) rfl (l' := #[.val (.ref pk), .val (.ref ce), .val (.ref io), .val (.int off), .val (.int i), .val (.long (((((0 : Int64) + (((f (i + (0 : Int32)))).toInt64 * (1 : Int64))) + (((f (i + (1 : Int32)))).toInt64 * ((1 : Int64) * (md).toInt64))) + (((f (i + (2 : Int32)))).toInt64 * (((1 : Int64) * (md).toInt64) * (md).toInt64))) + (((f (i + (3 : Int32)))).toInt64 * ((((1 : Int64) * (md).toInt64) * (md).toInt64) * (md).toInt64)))), .second, .val (.int (f_min g (n - i))), .val (.int 3), .unset, .val (.int y10), .val (.int y11), .val (.long y12), .second, .val (.int y14)]) rfl (XT.iincV X17.here hx rfl 1 (hb hby d6_58) (by decide) rfl (l' := #[.val (.ref pk), .val (.ref ce), .val (.ref io), .val (.int off), .val (.int i), .val (.long (((((0 : Int64) + (((f (i + (0 : Int32)))).toInt64 * (1 : Int64))) + (((f (i + (1 : Int32)))).toInt64 * ((1 : Int64) * (md).toInt64))) + (((f (i + (2 : Int32)))).toInt64 * (((1 : Int64) * (md).toInt64) * (md).toInt64))) + (((f (i + (3 : Int32)))).toInt64 * ((((1 : Int64) * (md).toInt64) * (md).toInt64) * (md).toInt64)))), .second, .val (.int (f_min g (n - i))), .val (.int 4), .unset, .val (.int y10), .val (.int y11), .val (.long y12), .second, .val (.int y14)]) rfl (XS.goto X17.here hx rfl (pc0 := 61) (pc' := 30) rfl (hb hby d6_61) (by decide) (by decide) (XS.iload X17.here hx rfl (hb hby d6_30) rfl (XS.iload X17.here hx rfl (hb hby d6_32) rfl (XS.icmpYes X17.here hx rfl (pc0 := 34) (pc' := 64) rfl (hb hby d6_34) rfl (flt hRA.2.1).2.1 (by decide) (by decide) k)))))))) ?_
        rw [show (((((0 : Int64) + (((f (i + (0 : Int32)))).toInt64 * (1 : Int64))) + (((f (i + (1 : Int32)))).toInt64 * ((1 : Int64) * (md).toInt64))) + (((f (i + (2 : Int32)))).toInt64 * (((1 : Int64) * (md).toInt64) * (md).toInt64))) + (((f (i + (3 : Int32)))).toInt64 * ((((1 : Int64) * (md).toInt64) * (md).toInt64) * (md).toInt64))) = (own_sum f md i (f_min g (n - i))) from by rw [own_sum, if_pos c34_7, if_pos c34_11, if_pos c34_15]]
        exact k T17 hA _ (4 : Int32) X17 e17 N3 (Keep.refl hA []) 
      · refine Wp.back (U' := (T13.setTop (mkF m 64 #[.val (.ref pk), .val (.ref ce), .val (.ref io), .val (.int off), .val (.int i), .val (.long ((((0 : Int64) + (((f (i + (0 : Int32)))).toInt64 * (1 : Int64))) + (((f (i + (1 : Int32)))).toInt64 * ((1 : Int64) * (md).toInt64))) + (((f (i + (2 : Int32)))).toInt64 * (((1 : Int64) * (md).toInt64) * (md).toInt64)))), .second, .val (.int (f_min g (n - i))), .val (.int 3), .unset, .val (.int y10), .val (.int y11), .val (.long y12), .second, .val (.int y14)] []))) (fun t k => XS.icmpYes X13.here hx rfl (pc0 := 34) (pc' := 64) rfl (hb hby d6_34) rfl (flt c34_15).2.1 (by decide) (by decide) k) ?_
        rw [show ((((0 : Int64) + (((f (i + (0 : Int32)))).toInt64 * (1 : Int64))) + (((f (i + (1 : Int32)))).toInt64 * ((1 : Int64) * (md).toInt64))) + (((f (i + (2 : Int32)))).toInt64 * (((1 : Int64) * (md).toInt64) * (md).toInt64))) = (own_sum f md i (f_min g (n - i))) from by rw [own_sum, if_pos c34_7, if_pos c34_11, if_neg c34_15]]
        exact k T13 hA _ (3 : Int32) X13 e13 N3 (Keep.refl hA []) 
    · refine Wp.back (U' := (T9.setTop (mkF m 64 #[.val (.ref pk), .val (.ref ce), .val (.ref io), .val (.int off), .val (.int i), .val (.long (((0 : Int64) + (((f (i + (0 : Int32)))).toInt64 * (1 : Int64))) + (((f (i + (1 : Int32)))).toInt64 * ((1 : Int64) * (md).toInt64)))), .second, .val (.int (f_min g (n - i))), .val (.int 2), .unset, .val (.int y10), .val (.int y11), .val (.long y12), .second, .val (.int y14)] []))) (fun t k => XS.icmpYes X9.here hx rfl (pc0 := 34) (pc' := 64) rfl (hb hby d6_34) rfl (flt c34_11).2.1 (by decide) (by decide) k) ?_
      rw [show (((0 : Int64) + (((f (i + (0 : Int32)))).toInt64 * (1 : Int64))) + (((f (i + (1 : Int32)))).toInt64 * ((1 : Int64) * (md).toInt64))) = (own_sum f md i (f_min g (n - i))) from by rw [own_sum, if_pos c34_7, if_neg c34_11]]
      exact k T9 hA _ (2 : Int32) X9 e9 N3 (Keep.refl hA []) 
  · refine Wp.back (U' := (T5.setTop (mkF m 64 #[.val (.ref pk), .val (.ref ce), .val (.ref io), .val (.int off), .val (.int i), .val (.long ((0 : Int64) + (((f (i + (0 : Int32)))).toInt64 * (1 : Int64)))), .second, .val (.int (f_min g (n - i))), .val (.int 1), .unset, .val (.int y10), .val (.int y11), .val (.long y12), .second, .val (.int y14)] []))) (fun t k => XS.icmpYes X5.here hx rfl (pc0 := 34) (pc' := 64) rfl (hb hby d6_34) rfl (flt c34_7).2.1 (by decide) (by decide) k) ?_
    rw [show ((0 : Int64) + (((f (i + (0 : Int32)))).toInt64 * (1 : Int64))) = (own_sum f md i (f_min g (n - i))) from by rw [own_sum, if_neg c34_7]]
    exact k T5 hA _ (1 : Int32) X5 e5 N3 (Keep.refl hA []) 
def own_turn (f : Int32 → Int32) (v bt : Int64) (bb : Int32) : Int32 → Int32 := (if (1 : Int32) < (own_ct bt bb) then (if (2 : Int32) < (own_ct bt bb) then (if (3 : Int32) < (own_ct bt bb) then (own_upd (own_upd (own_upd (own_upd f ((own_by bt) + (0 : Int32)) (nar .byte (((f ((own_by bt) + (0 : Int32))) ||| ((((((own_sh v bt bb)).toUInt64 >>> ((56 : Int32) &&& 0x3f).toInt64.toUInt64).toInt64)).toInt32).toInt8.toInt32)).toInt8.toInt32)) ((own_by bt) + (1 : Int32)) (nar .byte ((((own_upd f ((own_by bt) + (0 : Int32)) (nar .byte (((f ((own_by bt) + (0 : Int32))) ||| ((((((own_sh v bt bb)).toUInt64 >>> ((56 : Int32) &&& 0x3f).toInt64.toUInt64).toInt64)).toInt32).toInt8.toInt32)).toInt8.toInt32)) ((own_by bt) + (1 : Int32))) ||| ((((((own_sh v bt bb)).toUInt64 >>> ((48 : Int32) &&& 0x3f).toInt64.toUInt64).toInt64)).toInt32).toInt8.toInt32)).toInt8.toInt32)) ((own_by bt) + (2 : Int32)) (nar .byte ((((own_upd (own_upd f ((own_by bt) + (0 : Int32)) (nar .byte (((f ((own_by bt) + (0 : Int32))) ||| ((((((own_sh v bt bb)).toUInt64 >>> ((56 : Int32) &&& 0x3f).toInt64.toUInt64).toInt64)).toInt32).toInt8.toInt32)).toInt8.toInt32)) ((own_by bt) + (1 : Int32)) (nar .byte ((((own_upd f ((own_by bt) + (0 : Int32)) (nar .byte (((f ((own_by bt) + (0 : Int32))) ||| ((((((own_sh v bt bb)).toUInt64 >>> ((56 : Int32) &&& 0x3f).toInt64.toUInt64).toInt64)).toInt32).toInt8.toInt32)).toInt8.toInt32)) ((own_by bt) + (1 : Int32))) ||| ((((((own_sh v bt bb)).toUInt64 >>> ((48 : Int32) &&& 0x3f).toInt64.toUInt64).toInt64)).toInt32).toInt8.toInt32)).toInt8.toInt32)) ((own_by bt) + (2 : Int32))) ||| ((((((own_sh v bt bb)).toUInt64 >>> ((40 : Int32) &&& 0x3f).toInt64.toUInt64).toInt64)).toInt32).toInt8.toInt32)).toInt8.toInt32)) ((own_by bt) + (3 : Int32)) (nar .byte ((((own_upd (own_upd (own_upd f ((own_by bt) + (0 : Int32)) (nar .byte (((f ((own_by bt) + (0 : Int32))) ||| ((((((own_sh v bt bb)).toUInt64 >>> ((56 : Int32) &&& 0x3f).toInt64.toUInt64).toInt64)).toInt32).toInt8.toInt32)).toInt8.toInt32)) ((own_by bt) + (1 : Int32)) (nar .byte ((((own_upd f ((own_by bt) + (0 : Int32)) (nar .byte (((f ((own_by bt) + (0 : Int32))) ||| ((((((own_sh v bt bb)).toUInt64 >>> ((56 : Int32) &&& 0x3f).toInt64.toUInt64).toInt64)).toInt32).toInt8.toInt32)).toInt8.toInt32)) ((own_by bt) + (1 : Int32))) ||| ((((((own_sh v bt bb)).toUInt64 >>> ((48 : Int32) &&& 0x3f).toInt64.toUInt64).toInt64)).toInt32).toInt8.toInt32)).toInt8.toInt32)) ((own_by bt) + (2 : Int32)) (nar .byte ((((own_upd (own_upd f ((own_by bt) + (0 : Int32)) (nar .byte (((f ((own_by bt) + (0 : Int32))) ||| ((((((own_sh v bt bb)).toUInt64 >>> ((56 : Int32) &&& 0x3f).toInt64.toUInt64).toInt64)).toInt32).toInt8.toInt32)).toInt8.toInt32)) ((own_by bt) + (1 : Int32)) (nar .byte ((((own_upd f ((own_by bt) + (0 : Int32)) (nar .byte (((f ((own_by bt) + (0 : Int32))) ||| ((((((own_sh v bt bb)).toUInt64 >>> ((56 : Int32) &&& 0x3f).toInt64.toUInt64).toInt64)).toInt32).toInt8.toInt32)).toInt8.toInt32)) ((own_by bt) + (1 : Int32))) ||| ((((((own_sh v bt bb)).toUInt64 >>> ((48 : Int32) &&& 0x3f).toInt64.toUInt64).toInt64)).toInt32).toInt8.toInt32)).toInt8.toInt32)) ((own_by bt) + (2 : Int32))) ||| ((((((own_sh v bt bb)).toUInt64 >>> ((40 : Int32) &&& 0x3f).toInt64.toUInt64).toInt64)).toInt32).toInt8.toInt32)).toInt8.toInt32)) ((own_by bt) + (3 : Int32))) ||| ((((((own_sh v bt bb)).toUInt64 >>> ((32 : Int32) &&& 0x3f).toInt64.toUInt64).toInt64)).toInt32).toInt8.toInt32)).toInt8.toInt32)) else (own_upd (own_upd (own_upd f ((own_by bt) + (0 : Int32)) (nar .byte (((f ((own_by bt) + (0 : Int32))) ||| ((((((own_sh v bt bb)).toUInt64 >>> ((56 : Int32) &&& 0x3f).toInt64.toUInt64).toInt64)).toInt32).toInt8.toInt32)).toInt8.toInt32)) ((own_by bt) + (1 : Int32)) (nar .byte ((((own_upd f ((own_by bt) + (0 : Int32)) (nar .byte (((f ((own_by bt) + (0 : Int32))) ||| ((((((own_sh v bt bb)).toUInt64 >>> ((56 : Int32) &&& 0x3f).toInt64.toUInt64).toInt64)).toInt32).toInt8.toInt32)).toInt8.toInt32)) ((own_by bt) + (1 : Int32))) ||| ((((((own_sh v bt bb)).toUInt64 >>> ((48 : Int32) &&& 0x3f).toInt64.toUInt64).toInt64)).toInt32).toInt8.toInt32)).toInt8.toInt32)) ((own_by bt) + (2 : Int32)) (nar .byte ((((own_upd (own_upd f ((own_by bt) + (0 : Int32)) (nar .byte (((f ((own_by bt) + (0 : Int32))) ||| ((((((own_sh v bt bb)).toUInt64 >>> ((56 : Int32) &&& 0x3f).toInt64.toUInt64).toInt64)).toInt32).toInt8.toInt32)).toInt8.toInt32)) ((own_by bt) + (1 : Int32)) (nar .byte ((((own_upd f ((own_by bt) + (0 : Int32)) (nar .byte (((f ((own_by bt) + (0 : Int32))) ||| ((((((own_sh v bt bb)).toUInt64 >>> ((56 : Int32) &&& 0x3f).toInt64.toUInt64).toInt64)).toInt32).toInt8.toInt32)).toInt8.toInt32)) ((own_by bt) + (1 : Int32))) ||| ((((((own_sh v bt bb)).toUInt64 >>> ((48 : Int32) &&& 0x3f).toInt64.toUInt64).toInt64)).toInt32).toInt8.toInt32)).toInt8.toInt32)) ((own_by bt) + (2 : Int32))) ||| ((((((own_sh v bt bb)).toUInt64 >>> ((40 : Int32) &&& 0x3f).toInt64.toUInt64).toInt64)).toInt32).toInt8.toInt32)).toInt8.toInt32))) else (own_upd (own_upd f ((own_by bt) + (0 : Int32)) (nar .byte (((f ((own_by bt) + (0 : Int32))) ||| ((((((own_sh v bt bb)).toUInt64 >>> ((56 : Int32) &&& 0x3f).toInt64.toUInt64).toInt64)).toInt32).toInt8.toInt32)).toInt8.toInt32)) ((own_by bt) + (1 : Int32)) (nar .byte ((((own_upd f ((own_by bt) + (0 : Int32)) (nar .byte (((f ((own_by bt) + (0 : Int32))) ||| ((((((own_sh v bt bb)).toUInt64 >>> ((56 : Int32) &&& 0x3f).toInt64.toUInt64).toInt64)).toInt32).toInt8.toInt32)).toInt8.toInt32)) ((own_by bt) + (1 : Int32))) ||| ((((((own_sh v bt bb)).toUInt64 >>> ((48 : Int32) &&& 0x3f).toInt64.toUInt64).toInt64)).toInt32).toInt8.toInt32)).toInt8.toInt32))) else (own_upd f ((own_by bt) + (0 : Int32)) (nar .byte (((f ((own_by bt) + (0 : Int32))) ||| ((((((own_sh v bt bb)).toUInt64 >>> ((56 : Int32) &&& 0x3f).toInt64.toUInt64).toInt64)).toInt32).toInt8.toInt32)).toInt8.toInt32)))
theorem d6_65 : decode prog_4_method_7_code 65 = .ok (.i2l, 1) := by decide +kernel
theorem d6_66 : decode prog_4_method_7_code 66 = .ok (.ldc2_w 50, 3) := by decide +kernel
theorem d6_69 : decode prog_4_method_7_code 69 = .ok (.lmul, 1) := by decide +kernel
theorem d6_70 : decode prog_4_method_7_code 70 = .ok (.iload 4, 2) := by decide +kernel
theorem d6_72 : decode prog_4_method_7_code 72 = .ok (.aload_n 0, 1) := by decide +kernel
theorem d6_73 : decode prog_4_method_7_code 73 = .ok (.getfield 32, 3) := by decide +kernel
theorem d6_76 : decode prog_4_method_7_code 76 = .ok (.idiv, 1) := by decide +kernel
theorem d6_77 : decode prog_4_method_7_code 77 = .ok (.i2l, 1) := by decide +kernel
theorem d6_78 : decode prog_4_method_7_code 78 = .ok (.aload_n 0, 1) := by decide +kernel
theorem d6_79 : decode prog_4_method_7_code 79 = .ok (.getfield 41, 3) := by decide +kernel
theorem d6_82 : decode prog_4_method_7_code 82 = .ok (.i2l, 1) := by decide +kernel
theorem d6_83 : decode prog_4_method_7_code 83 = .ok (.lmul, 1) := by decide +kernel
theorem d6_84 : decode prog_4_method_7_code 84 = .ok (.ladd, 1) := by decide +kernel
theorem d6_85 : decode prog_4_method_7_code 85 = .ok (.lstore 8, 2) := by decide +kernel
theorem d6_87 : decode prog_4_method_7_code 87 = .ok (.lload 8, 2) := by decide +kernel
theorem d6_89 : decode prog_4_method_7_code 89 = .ok (.iconst 3, 1) := by decide +kernel
theorem d6_90 : decode prog_4_method_7_code 90 = .ok (.lushr, 1) := by decide +kernel
theorem d6_91 : decode prog_4_method_7_code 91 = .ok (.l2i, 1) := by decide +kernel
theorem d6_92 : decode prog_4_method_7_code 92 = .ok (.istore 10, 2) := by decide +kernel
theorem d6_94 : decode prog_4_method_7_code 94 = .ok (.lload 8, 2) := by decide +kernel
theorem d6_96 : decode prog_4_method_7_code 96 = .ok (.ldc2_w 48, 3) := by decide +kernel
theorem d6_99 : decode prog_4_method_7_code 99 = .ok (.land, 1) := by decide +kernel
theorem d6_100 : decode prog_4_method_7_code 100 = .ok (.l2i, 1) := by decide +kernel
theorem d6_101 : decode prog_4_method_7_code 101 = .ok (.istore 11, 2) := by decide +kernel
theorem d6_103 : decode prog_4_method_7_code 103 = .ok (.lload 5, 2) := by decide +kernel
theorem d6_105 : decode prog_4_method_7_code 105 = .ok (.bipush 64, 2) := by decide +kernel
theorem d6_107 : decode prog_4_method_7_code 107 = .ok (.iload 11, 2) := by decide +kernel
theorem d6_109 : decode prog_4_method_7_code 109 = .ok (.isub, 1) := by decide +kernel
theorem d6_110 : decode prog_4_method_7_code 110 = .ok (.aload_n 0, 1) := by decide +kernel
theorem d6_111 : decode prog_4_method_7_code 111 = .ok (.getfield 41, 3) := by decide +kernel
theorem d6_114 : decode prog_4_method_7_code 114 = .ok (.isub, 1) := by decide +kernel
theorem d6_115 : decode prog_4_method_7_code 115 = .ok (.lshl, 1) := by decide +kernel
theorem d6_116 : decode prog_4_method_7_code 116 = .ok (.lstore 12, 2) := by decide +kernel
theorem d6_118 : decode prog_4_method_7_code 118 = .ok (.iconst 0, 1) := by decide +kernel
theorem d6_119 : decode prog_4_method_7_code 119 = .ok (.istore 14, 2) := by decide +kernel
theorem d6_121 : decode prog_4_method_7_code 121 = .ok (.iload 14, 2) := by decide +kernel
theorem d6_123 : decode prog_4_method_7_code 123 = .ok (.iload 11, 2) := by decide +kernel
theorem d6_125 : decode prog_4_method_7_code 125 = .ok (.aload_n 0, 1) := by decide +kernel
theorem d6_126 : decode prog_4_method_7_code 126 = .ok (.getfield 41, 3) := by decide +kernel
theorem d6_129 : decode prog_4_method_7_code 129 = .ok (.iadd, 1) := by decide +kernel
theorem d6_130 : decode prog_4_method_7_code 130 = .ok (.bipush 7, 2) := by decide +kernel
theorem d6_132 : decode prog_4_method_7_code 132 = .ok (.iadd, 1) := by decide +kernel
theorem d6_133 : decode prog_4_method_7_code 133 = .ok (.bipush 8, 2) := by decide +kernel
theorem d6_135 : decode prog_4_method_7_code 135 = .ok (.idiv, 1) := by decide +kernel
theorem d6_136 : decode prog_4_method_7_code 136 = .ok (.if_icmp .ge 33, 3) := by decide +kernel
theorem d6_139 : decode prog_4_method_7_code 139 = .ok (.aload_n 2, 1) := by decide +kernel
theorem d6_140 : decode prog_4_method_7_code 140 = .ok (.iload 10, 2) := by decide +kernel
theorem d6_142 : decode prog_4_method_7_code 142 = .ok (.iload 14, 2) := by decide +kernel
theorem d6_144 : decode prog_4_method_7_code 144 = .ok (.iadd, 1) := by decide +kernel
theorem d6_145 : decode prog_4_method_7_code 145 = .ok (.dup2, 1) := by decide +kernel
theorem d6_146 : decode prog_4_method_7_code 146 = .ok (.baload, 1) := by decide +kernel
theorem d6_147 : decode prog_4_method_7_code 147 = .ok (.lload 12, 2) := by decide +kernel
theorem d6_149 : decode prog_4_method_7_code 149 = .ok (.bipush 56, 2) := by decide +kernel
theorem d6_151 : decode prog_4_method_7_code 151 = .ok (.bipush 8, 2) := by decide +kernel
theorem d6_153 : decode prog_4_method_7_code 153 = .ok (.iload 14, 2) := by decide +kernel
theorem d6_155 : decode prog_4_method_7_code 155 = .ok (.imul, 1) := by decide +kernel
theorem d6_156 : decode prog_4_method_7_code 156 = .ok (.isub, 1) := by decide +kernel
theorem d6_157 : decode prog_4_method_7_code 157 = .ok (.lushr, 1) := by decide +kernel
theorem d6_158 : decode prog_4_method_7_code 158 = .ok (.l2i, 1) := by decide +kernel
theorem d6_159 : decode prog_4_method_7_code 159 = .ok (.i2b, 1) := by decide +kernel
theorem d6_160 : decode prog_4_method_7_code 160 = .ok (.ior, 1) := by decide +kernel
theorem d6_161 : decode prog_4_method_7_code 161 = .ok (.i2b, 1) := by decide +kernel
theorem d6_162 : decode prog_4_method_7_code 162 = .ok (.bastore, 1) := by decide +kernel
theorem d6_163 : decode prog_4_method_7_code 163 = .ok (.iinc 14 1, 3) := by decide +kernel
theorem d6_166 : decode prog_4_method_7_code 166 = .ok (.goto (-45), 3) := by decide +kernel
theorem d6_169 : decode prog_4_method_7_code 169 = .ok (.iload 4, 2) := by decide +kernel
set_option maxRecDepth 65536 in
set_option maxHeartbeats 40000000 in
theorem own_pC0 {p : Program} {l : Launch} {e : Env} {R : Room} {s : State} {m : MethodId} {args : Array Value} {below : List Frame} {meth : Method} {c : Code} {T0 : State} {locs : List Loc} {cells slots : Nat} {Z : State} {a0 : Array Value} {hA : Heap} {n0 : Nat} (pk ce io : Addr) (ko : ClassId) (f : Int32 → Int32) (off i g bb q y8 : Int32) (v bt : Int64)
    (hx : p.tables.exec = Jvm.exec) (hw : ∀ d ∈ tables_1, d.before a0 Z = true) (hby : c.code = prog_4_method_7_code) (hml : c.maxLocals = 15) (hZ : Z.Warmed39 s.vm) (hown : s.vm.findClass "com/example/known_leaks/knownleaks/CellPacking" = some m.cls) (X0 : Stand p l e R s m args below meth c T0 locs cells slots) (e0 : T0.heap = hA) (N0 : Fr n0 locs) (Z0 : n0 ≤ hA.size) (H0 : Fld Z hA pk "com/example/known_leaks/knownleaks/CellPacking" "cellsPerBlock" "I" (.int g)) (H1 : Fld Z hA pk "com/example/known_leaks/knownleaks/CellPacking" "blockBits" "I" (.int bb)) (H2 : Arv Z hA io ko .byte (9 : Int32) (own_L f) (.int 0)) (gio : n0 ≤ io) (hpi : pk ≠ io) (hg0 : g ≠ 0) (hbt : (own_BT off bb ((i / g)).toInt64) = bt) (hB : own_RB bt bb) {G : Outcome → State → Prop}
    (k : ∀ (T' : State) (h' : Heap) (L' : List Loc) (y14' : Int32), Stand p l e R s m args below meth c T' L' cells slots → T'.heap = h' → Fr n0 L' → Keep hA h' [io] → Arv Z h' io ko .byte (9 : Int32) (own_L (own_turn f v bt bb)) (.int 0) → Wp p e below G (T'.setTop (mkF m 169 #[.val (.ref pk), .val (.ref ce), .val (.ref io), .val (.int off), .val (.int i), .val (.long v), .second, .val (.int q), .val (.long bt), .second, .val (.int (own_by bt)), .val (.int (own_ib bt)), .val (.long (own_sh v bt bb)), .second, .val (.int y14')] []))) :
    Wp p e below G (T0.setTop (mkF m 64 #[.val (.ref pk), .val (.ref ce), .val (.ref io), .val (.int off), .val (.int i), .val (.long v), .second, .val (.int q), .val (.int y8), .unset, .unset, .unset, .unset, .unset, .unset] [])) := by
  refine Wp.back (U' := (T0.setTop (mkF m 73 #[.val (.ref pk), .val (.ref ce), .val (.ref io), .val (.int off), .val (.int i), .val (.long v), .second, .val (.int q), .val (.int y8), .unset, .unset, .unset, .unset, .unset, .unset] [(.ref pk), (.int i), (.long ((off).toInt64 * (8 : Int64)))]))) (fun t k => XS.iloadN X0.here hx rfl (hb hby d6_64) rfl (XS.i2l X0.here hx rfl (hb hby d6_65) rfl (Jvm.Stand.ldc2J X0 hx hown (mvT hZ (ow hw 57 rfl)) rfl (hb hby d6_66) (XS.lmul X0.here hx rfl (hb hby d6_69) rfl (XS.iload X0.here hx rfl (hb hby d6_70) rfl (XS.aloadN X0.here hx rfl (hb hby d6_72) rfl rfl k)))))) ?_
  obtain ⟨T1, X1, e1, st1⟩ := getF X0 hx hZ hown (host := "") (Or.inl (ow hw 19 rfl)) Via.refl e0 H0 (g := (mkF m 73 #[.val (.ref pk), .val (.ref ce), .val (.ref io), .val (.int off), .val (.int i), .val (.long v), .second, .val (.int q), .val (.int y8), .unset, .unset, .unset, .unset, .unset, .unset] [(.ref pk), (.int i), (.long ((off).toInt64 * (8 : Int64)))])) rfl rfl (hb hby d6_73)
  refine Wp.back (U' := (T1.setTop (mkF m 76 #[.val (.ref pk), .val (.ref ce), .val (.ref io), .val (.int off), .val (.int i), .val (.long v), .second, .val (.int q), .val (.int y8), .unset, .unset, .unset, .unset, .unset, .unset] [(.int g), (.int i), (.long ((off).toInt64 * (8 : Int64)))]))) st1 ?_
  refine Wp.back (U' := (T1.setTop (mkF m 79 #[.val (.ref pk), .val (.ref ce), .val (.ref io), .val (.int off), .val (.int i), .val (.long v), .second, .val (.int q), .val (.int y8), .unset, .unset, .unset, .unset, .unset, .unset] [(.ref pk), (.long ((i / g)).toInt64), (.long ((off).toInt64 * (8 : Int64)))]))) (fun t k => XS.idiv X1.here hx rfl (hb hby d6_76) rfl hg0 (XS.i2l X1.here hx rfl (hb hby d6_77) rfl (XS.aloadN X1.here hx rfl (hb hby d6_78) rfl rfl k))) ?_
  obtain ⟨T2, X2, e2, st2⟩ := getF X1 hx hZ hown (host := "") (Or.inl (ow hw 30 rfl)) Via.refl e1 H1 (g := (mkF m 79 #[.val (.ref pk), .val (.ref ce), .val (.ref io), .val (.int off), .val (.int i), .val (.long v), .second, .val (.int q), .val (.int y8), .unset, .unset, .unset, .unset, .unset, .unset] [(.ref pk), (.long ((i / g)).toInt64), (.long ((off).toInt64 * (8 : Int64)))])) rfl rfl (hb hby d6_79)
  refine Wp.back (U' := (T2.setTop (mkF m 82 #[.val (.ref pk), .val (.ref ce), .val (.ref io), .val (.int off), .val (.int i), .val (.long v), .second, .val (.int q), .val (.int y8), .unset, .unset, .unset, .unset, .unset, .unset] [(.int bb), (.long ((i / g)).toInt64), (.long ((off).toInt64 * (8 : Int64)))]))) st2 ?_
  refine Wp.back (U' := (T2.setTop (mkF m 87 #[.val (.ref pk), .val (.ref ce), .val (.ref io), .val (.int off), .val (.int i), .val (.long v), .second, .val (.int q), .val (.long (((off).toInt64 * (8 : Int64)) + (((i / g)).toInt64 * (bb).toInt64))), .second, .unset, .unset, .unset, .unset, .unset] []))) (fun t k => XS.i2l X2.here hx rfl (hb hby d6_82) rfl (XS.lmul X2.here hx rfl (hb hby d6_83) rfl (XS.ladd X2.here hx rfl (hb hby d6_84) rfl (XS.lstore X2.here hx rfl (hb hby d6_85) rfl (l' := #[.val (.ref pk), .val (.ref ce), .val (.ref io), .val (.int off), .val (.int i), .val (.long v), .second, .val (.int q), .val (.long (((off).toInt64 * (8 : Int64)) + (((i / g)).toInt64 * (bb).toInt64))), .second, .unset, .unset, .unset, .unset, .unset]) rfl k)))) ?_
  rw [show (((off).toInt64 * (8 : Int64)) + (((i / g)).toInt64 * (bb).toInt64)) = bt from hbt]
  refine Wp.back (U' := (T2.setTop (mkF m 94 #[.val (.ref pk), .val (.ref ce), .val (.ref io), .val (.int off), .val (.int i), .val (.long v), .second, .val (.int q), .val (.long bt), .second, .val (.int ((((bt).toUInt64 >>> ((3 : Int32) &&& 0x3f).toInt64.toUInt64).toInt64)).toInt32), .unset, .unset, .unset, .unset] []))) (fun t k => XS.lload X2.here hx rfl (hb hby d6_87) rfl (XT.iconstV X2.here hx rfl 3 (hb hby d6_89) (by decide) (XS.lushr X2.here hx rfl (hb hby d6_90) rfl (XS.l2i X2.here hx rfl (hb hby d6_91) rfl (XS.istore X2.here hx rfl (hb hby d6_92) rfl (l' := #[.val (.ref pk), .val (.ref ce), .val (.ref io), .val (.int off), .val (.int i), .val (.long v), .second, .val (.int q), .val (.long bt), .second, .val (.int ((((bt).toUInt64 >>> ((3 : Int32) &&& 0x3f).toInt64.toUInt64).toInt64)).toInt32), .unset, .unset, .unset, .unset]) rfl k))))) ?_
  show Wp p e below _ (T2.setTop (mkF m 94 #[.val (.ref pk), .val (.ref ce), .val (.ref io), .val (.int off), .val (.int i), .val (.long v), .second, .val (.int q), .val (.long bt), .second, .val (.int (own_by bt)), .unset, .unset, .unset, .unset] []))
  refine Wp.back (U' := (T2.setTop (mkF m 103 #[.val (.ref pk), .val (.ref ce), .val (.ref io), .val (.int off), .val (.int i), .val (.long v), .second, .val (.int q), .val (.long bt), .second, .val (.int (own_by bt)), .val (.int ((bt &&& (7 : Int64))).toInt32), .unset, .unset, .unset] []))) (fun t k => XS.lload X2.here hx rfl (hb hby d6_94) rfl (Jvm.Stand.ldc2J X2 hx hown (mvT hZ (ow hw 58 rfl)) rfl (hb hby d6_96) (XS.land X2.here hx rfl (hb hby d6_99) rfl (XS.l2i X2.here hx rfl (hb hby d6_100) rfl (XS.istore X2.here hx rfl (hb hby d6_101) rfl (l' := #[.val (.ref pk), .val (.ref ce), .val (.ref io), .val (.int off), .val (.int i), .val (.long v), .second, .val (.int q), .val (.long bt), .second, .val (.int (own_by bt)), .val (.int ((bt &&& (7 : Int64))).toInt32), .unset, .unset, .unset]) rfl k))))) ?_
  show Wp p e below _ (T2.setTop (mkF m 103 #[.val (.ref pk), .val (.ref ce), .val (.ref io), .val (.int off), .val (.int i), .val (.long v), .second, .val (.int q), .val (.long bt), .second, .val (.int (own_by bt)), .val (.int (own_ib bt)), .unset, .unset, .unset] []))
  refine Wp.back (U' := (T2.setTop (mkF m 111 #[.val (.ref pk), .val (.ref ce), .val (.ref io), .val (.int off), .val (.int i), .val (.long v), .second, .val (.int q), .val (.long bt), .second, .val (.int (own_by bt)), .val (.int (own_ib bt)), .unset, .unset, .unset] [(.ref pk), (.int ((64 : Int32) - (own_ib bt))), (.long v)]))) (fun t k => XS.lload X2.here hx rfl (hb hby d6_103) rfl (XT.bipushV X2.here hx rfl 64 (hb hby d6_105) (by decide) (XS.iload X2.here hx rfl (hb hby d6_107) rfl (XS.isub X2.here hx rfl (hb hby d6_109) rfl (XS.aloadN X2.here hx rfl (hb hby d6_110) rfl rfl k))))) ?_
  obtain ⟨T3, X3, e3, st3⟩ := getF X2 hx hZ hown (host := "") (Or.inl (ow hw 30 rfl)) Via.refl e2 H1 (g := (mkF m 111 #[.val (.ref pk), .val (.ref ce), .val (.ref io), .val (.int off), .val (.int i), .val (.long v), .second, .val (.int q), .val (.long bt), .second, .val (.int (own_by bt)), .val (.int (own_ib bt)), .unset, .unset, .unset] [(.ref pk), (.int ((64 : Int32) - (own_ib bt))), (.long v)])) rfl rfl (hb hby d6_111)
  refine Wp.back (U' := (T3.setTop (mkF m 114 #[.val (.ref pk), .val (.ref ce), .val (.ref io), .val (.int off), .val (.int i), .val (.long v), .second, .val (.int q), .val (.long bt), .second, .val (.int (own_by bt)), .val (.int (own_ib bt)), .unset, .unset, .unset] [(.int bb), (.int ((64 : Int32) - (own_ib bt))), (.long v)]))) st3 ?_
  refine Wp.back (U' := (T3.setTop (mkF m 118 #[.val (.ref pk), .val (.ref ce), .val (.ref io), .val (.int off), .val (.int i), .val (.long v), .second, .val (.int q), .val (.long bt), .second, .val (.int (own_by bt)), .val (.int (own_ib bt)), .val (.long (v <<< ((((64 : Int32) - (own_ib bt)) - bb) &&& 0x3f).toInt64)), .second, .unset] []))) (fun t k => XS.isub X3.here hx rfl (hb hby d6_114) rfl (XS.lshl X3.here hx rfl (hb hby d6_115) rfl (XS.lstore X3.here hx rfl (hb hby d6_116) rfl (l' := #[.val (.ref pk), .val (.ref ce), .val (.ref io), .val (.int off), .val (.int i), .val (.long v), .second, .val (.int q), .val (.long bt), .second, .val (.int (own_by bt)), .val (.int (own_ib bt)), .val (.long (v <<< ((((64 : Int32) - (own_ib bt)) - bb) &&& 0x3f).toInt64)), .second, .unset]) rfl k))) ?_
  show Wp p e below _ (T3.setTop (mkF m 118 #[.val (.ref pk), .val (.ref ce), .val (.ref io), .val (.int off), .val (.int i), .val (.long v), .second, .val (.int q), .val (.long bt), .second, .val (.int (own_by bt)), .val (.int (own_ib bt)), .val (.long (own_sh v bt bb)), .second, .unset] []))
  refine Wp.back (U' := (T3.setTop (mkF m 126 #[.val (.ref pk), .val (.ref ce), .val (.ref io), .val (.int off), .val (.int i), .val (.long v), .second, .val (.int q), .val (.long bt), .second, .val (.int (own_by bt)), .val (.int (own_ib bt)), .val (.long (own_sh v bt bb)), .second, .val (.int 0)] [(.ref pk), (.int (own_ib bt)), (.int 0)]))) (fun t k => XT.iconstV X3.here hx rfl 0 (hb hby d6_118) (by decide) (XS.istore X3.here hx rfl (hb hby d6_119) rfl (l' := #[.val (.ref pk), .val (.ref ce), .val (.ref io), .val (.int off), .val (.int i), .val (.long v), .second, .val (.int q), .val (.long bt), .second, .val (.int (own_by bt)), .val (.int (own_ib bt)), .val (.long (own_sh v bt bb)), .second, .val (.int 0)]) rfl (XS.iload X3.here hx rfl (hb hby d6_121) rfl (XS.iload X3.here hx rfl (hb hby d6_123) rfl (XS.aloadN X3.here hx rfl (hb hby d6_125) rfl rfl k))))) ?_
  obtain ⟨T4, X4, e4, st4⟩ := getF X3 hx hZ hown (host := "") (Or.inl (ow hw 30 rfl)) Via.refl e3 H1 (g := (mkF m 126 #[.val (.ref pk), .val (.ref ce), .val (.ref io), .val (.int off), .val (.int i), .val (.long v), .second, .val (.int q), .val (.long bt), .second, .val (.int (own_by bt)), .val (.int (own_ib bt)), .val (.long (own_sh v bt bb)), .second, .val (.int 0)] [(.ref pk), (.int (own_ib bt)), (.int 0)])) rfl rfl (hb hby d6_126)
  refine Wp.back (U' := (T4.setTop (mkF m 129 #[.val (.ref pk), .val (.ref ce), .val (.ref io), .val (.int off), .val (.int i), .val (.long v), .second, .val (.int q), .val (.long bt), .second, .val (.int (own_by bt)), .val (.int (own_ib bt)), .val (.long (own_sh v bt bb)), .second, .val (.int 0)] [(.int bb), (.int (own_ib bt)), (.int 0)]))) st4 ?_
  refine Wp.back (U' := (T4.setTop (mkF m 136 #[.val (.ref pk), .val (.ref ce), .val (.ref io), .val (.int off), .val (.int i), .val (.long v), .second, .val (.int q), .val (.long bt), .second, .val (.int (own_by bt)), .val (.int (own_ib bt)), .val (.long (own_sh v bt bb)), .second, .val (.int 0)] [(.int ((((own_ib bt) + bb) + (7 : Int32)) / (8 : Int32))), (.int 0)]))) (fun t k => XS.iadd X4.here hx rfl (hb hby d6_129) rfl (XT.bipushV X4.here hx rfl 7 (hb hby d6_130) (by decide) (XS.iadd X4.here hx rfl (hb hby d6_132) rfl (XT.bipushV X4.here hx rfl 8 (hb hby d6_133) (by decide) (XS.idiv X4.here hx rfl (hb hby d6_135) rfl (by decide) k))))) ?_
  show Wp p e below _ (T4.setTop (mkF m 136 #[.val (.ref pk), .val (.ref ce), .val (.ref io), .val (.int off), .val (.int i), .val (.long v), .second, .val (.int q), .val (.long bt), .second, .val (.int (own_by bt)), .val (.int (own_ib bt)), .val (.long (own_sh v bt bb)), .second, .val (.int 0)] [(.int (own_ct bt bb)), (.int 0)]))
  refine Wp.back (U' := (T4.setTop (mkF m 146 #[.val (.ref pk), .val (.ref ce), .val (.ref io), .val (.int off), .val (.int i), .val (.long v), .second, .val (.int q), .val (.long bt), .second, .val (.int (own_by bt)), .val (.int (own_ib bt)), .val (.long (own_sh v bt bb)), .second, .val (.int 0)] [(.int ((own_by bt) + (0 : Int32))), (.ref io), (.int ((own_by bt) + (0 : Int32))), (.ref io)]))) (fun t k => XS.icmpNo X4.here hx rfl (hb hby d6_136) rfl (tlt hB.1).2.1 (XS.aloadN X4.here hx rfl (hb hby d6_139) rfl rfl (XS.iload X4.here hx rfl (hb hby d6_140) rfl (XS.iload X4.here hx rfl (hb hby d6_142) rfl (XS.iadd X4.here hx rfl (hb hby d6_144) rfl (XT.dup2 X4.here hx rfl (hb hby d6_145) rfl rfl rfl k)))))) ?_
  have vq5 := H2
  obtain ⟨cl5, Ar5, qa5, qs5, qn5, qh5, qg5⟩ := vq5
  have hin5 : ¬ (((own_by bt) + (0 : Int32)) < 0 ∨ cl5.slots.size ≤ (((own_by bt) + (0 : Int32))).toNatClampNeg) := inb_of qs5 (hB.2.2 (0 : Int32) (by decide) hB.1)
  have hat5 : cl5.slots[(((own_by bt) + (0 : Int32))).toNatClampNeg]? = some (.int (f ((own_by bt) + (0 : Int32)))) := Has.at qh5 hin5 (own_getL f (hB.2.2 (0 : Int32) (by decide) hB.1))
  refine Wp.back (U' := (T4.setTop (mkF m 147 #[.val (.ref pk), .val (.ref ce), .val (.ref io), .val (.int off), .val (.int i), .val (.long v), .second, .val (.int q), .val (.long bt), .second, .val (.int (own_by bt)), .val (.int (own_ib bt)), .val (.long (own_sh v bt bb)), .second, .val (.int 0)] [(.int (f ((own_by bt) + (0 : Int32)))), (.int ((own_by bt) + (0 : Int32))), (.ref io)]))) (fun t k => X4.baloadBytes hx (j := ((own_by bt) + (0 : Int32))) (v := (.int (f ((own_by bt) + (0 : Int32))))) (by rw [e4]; exact Ar5.1) (State.isArrayOf_alike hZ.alike Ar5.2.1) Ar5.2.2 hin5 hat5 (g := (mkF m 146 #[.val (.ref pk), .val (.ref ce), .val (.ref io), .val (.int off), .val (.int i), .val (.long v), .second, .val (.int q), .val (.long bt), .second, .val (.int (own_by bt)), .val (.int (own_ib bt)), .val (.long (own_sh v bt bb)), .second, .val (.int 0)] [(.int ((own_by bt) + (0 : Int32))), (.ref io), (.int ((own_by bt) + (0 : Int32))), (.ref io)])) rfl rfl (hb hby d6_146) t k) ?_
  refine Wp.back (U' := (T4.setTop (mkF m 162 #[.val (.ref pk), .val (.ref ce), .val (.ref io), .val (.int off), .val (.int i), .val (.long v), .second, .val (.int q), .val (.long bt), .second, .val (.int (own_by bt)), .val (.int (own_ib bt)), .val (.long (own_sh v bt bb)), .second, .val (.int 0)] [(.int (((f ((own_by bt) + (0 : Int32))) ||| ((((((own_sh v bt bb)).toUInt64 >>> ((56 : Int32) &&& 0x3f).toInt64.toUInt64).toInt64)).toInt32).toInt8.toInt32)).toInt8.toInt32), (.int ((own_by bt) + (0 : Int32))), (.ref io)]))) (fun t k => XS.lload X4.here hx rfl (hb hby d6_147) rfl (XT.bipushV X4.here hx rfl 56 (hb hby d6_149) (by decide) (XT.bipushV X4.here hx rfl 8 (hb hby d6_151) (by decide) (XS.iload X4.here hx rfl (hb hby d6_153) rfl (XS.imul X4.here hx rfl (hb hby d6_155) rfl (XS.isub X4.here hx rfl (hb hby d6_156) rfl (XS.lushr X4.here hx rfl (hb hby d6_157) rfl (XS.l2i X4.here hx rfl (hb hby d6_158) rfl (XS.i2b X4.here hx rfl (hb hby d6_159) rfl (XS.ior X4.here hx rfl (hb hby d6_160) rfl (XS.i2b X4.here hx rfl (hb hby d6_161) rfl k))))))))))) ?_
  have vq6 := H2
  obtain ⟨cl6, Ar6, qa6, qs6, qn6, qh6, qg6⟩ := vq6
  have hin6 : ¬ (((own_by bt) + (0 : Int32)) < 0 ∨ cl6.slots.size ≤ (((own_by bt) + (0 : Int32))).toNatClampNeg) := inb_of qs6 (hB.2.2 (0 : Int32) (by decide) hB.1)
  obtain ⟨T6, h6, X6, e6, W6, st6⟩ := stB X4 hx hZ e4 Ar6 (j := ((own_by bt) + (0 : Int32))) hin6 (g := (mkF m 162 #[.val (.ref pk), .val (.ref ce), .val (.ref io), .val (.int off), .val (.int i), .val (.long v), .second, .val (.int q), .val (.long bt), .second, .val (.int (own_by bt)), .val (.int (own_ib bt)), .val (.long (own_sh v bt bb)), .second, .val (.int 0)] [(.int (((f ((own_by bt) + (0 : Int32))) ||| ((((((own_sh v bt bb)).toUInt64 >>> ((56 : Int32) &&& 0x3f).toInt64.toUInt64).toInt64)).toInt32).toInt8.toInt32)).toInt8.toInt32), (.int ((own_by bt) + (0 : Int32))), (.ref io)])) rfl rfl (hb hby d6_162)
  have V6 : Arv Z h6 io ko .byte (9 : Int32) (own_L (own_upd f ((own_by bt) + (0 : Int32)) (nar .byte (((f ((own_by bt) + (0 : Int32))) ||| ((((((own_sh v bt bb)).toUInt64 >>> ((56 : Int32) &&& 0x3f).toInt64.toUInt64).toInt64)).toInt32).toInt8.toInt32)).toInt8.toInt32))) (.int 0) := own_setL Ar6 qa6 qs6 qn6 qh6 qg6 (fits_nar_byte _) W6 (hB.2.2 (0 : Int32) (by decide) hB.1)
  have f7_0 := Nat.le_trans Z0 (Keep.of_wr W6).1
  have f7_1 := H0.other W6 (Or.inl hpi)
  have f7_2 := H1.other W6 (Or.inl hpi)
  have f7_3 := (Keep.refl hA [io]).wr W6 (Or.inl (List.mem_of_getElem? (i := 0) rfl))
  have N6 := Fr.snoc X6 N0 gio
  refine Wp.back (U' := (T6.setTop (mkF m 163 #[.val (.ref pk), .val (.ref ce), .val (.ref io), .val (.int off), .val (.int i), .val (.long v), .second, .val (.int q), .val (.long bt), .second, .val (.int (own_by bt)), .val (.int (own_ib bt)), .val (.long (own_sh v bt bb)), .second, .val (.int 0)] []))) st6 ?_
  refine Wp.back (U' := (T6.setTop (mkF m 126 #[.val (.ref pk), .val (.ref ce), .val (.ref io), .val (.int off), .val (.int i), .val (.long v), .second, .val (.int q), .val (.long bt), .second, .val (.int (own_by bt)), .val (.int (own_ib bt)), .val (.long (own_sh v bt bb)), .second, .val (.int 1)] [(.ref pk), (.int (own_ib bt)), (.int 1)]))) (fun t k => XT.iincV X6.here hx rfl 1 (hb hby d6_163) (by decide) rfl (l' := #[.val (.ref pk), .val (.ref ce), .val (.ref io), .val (.int off), .val (.int i), .val (.long v), .second, .val (.int q), .val (.long bt), .second, .val (.int (own_by bt)), .val (.int (own_ib bt)), .val (.long (own_sh v bt bb)), .second, .val (.int 1)]) rfl (XS.goto X6.here hx rfl (pc0 := 166) (pc' := 121) rfl (hb hby d6_166) (by decide) (by decide) (XS.iload X6.here hx rfl (hb hby d6_121) rfl (XS.iload X6.here hx rfl (hb hby d6_123) rfl (XS.aloadN X6.here hx rfl (hb hby d6_125) rfl rfl k))))) ?_
  obtain ⟨T8, X8, e8, st8⟩ := getF X6 hx hZ hown (host := "") (Or.inl (ow hw 30 rfl)) Via.refl e6 f7_2 (g := (mkF m 126 #[.val (.ref pk), .val (.ref ce), .val (.ref io), .val (.int off), .val (.int i), .val (.long v), .second, .val (.int q), .val (.long bt), .second, .val (.int (own_by bt)), .val (.int (own_ib bt)), .val (.long (own_sh v bt bb)), .second, .val (.int 1)] [(.ref pk), (.int (own_ib bt)), (.int 1)])) rfl rfl (hb hby d6_126)
  refine Wp.back (U' := (T8.setTop (mkF m 129 #[.val (.ref pk), .val (.ref ce), .val (.ref io), .val (.int off), .val (.int i), .val (.long v), .second, .val (.int q), .val (.long bt), .second, .val (.int (own_by bt)), .val (.int (own_ib bt)), .val (.long (own_sh v bt bb)), .second, .val (.int 1)] [(.int bb), (.int (own_ib bt)), (.int 1)]))) st8 ?_
  refine Wp.back (U' := (T8.setTop (mkF m 136 #[.val (.ref pk), .val (.ref ce), .val (.ref io), .val (.int off), .val (.int i), .val (.long v), .second, .val (.int q), .val (.long bt), .second, .val (.int (own_by bt)), .val (.int (own_ib bt)), .val (.long (own_sh v bt bb)), .second, .val (.int 1)] [(.int ((((own_ib bt) + bb) + (7 : Int32)) / (8 : Int32))), (.int 1)]))) (fun t k => XS.iadd X8.here hx rfl (hb hby d6_129) rfl (XT.bipushV X8.here hx rfl 7 (hb hby d6_130) (by decide) (XS.iadd X8.here hx rfl (hb hby d6_132) rfl (XT.bipushV X8.here hx rfl 8 (hb hby d6_133) (by decide) (XS.idiv X8.here hx rfl (hb hby d6_135) rfl (by decide) k))))) ?_
  show Wp p e below _ (T8.setTop (mkF m 136 #[.val (.ref pk), .val (.ref ce), .val (.ref io), .val (.int off), .val (.int i), .val (.long v), .second, .val (.int q), .val (.long bt), .second, .val (.int (own_by bt)), .val (.int (own_ib bt)), .val (.long (own_sh v bt bb)), .second, .val (.int 1)] [(.int (own_ct bt bb)), (.int 1)]))
  by_cases c136_9 : (1 : Int32) < (own_ct bt bb)
  · refine Wp.back (U' := (T8.setTop (mkF m 146 #[.val (.ref pk), .val (.ref ce), .val (.ref io), .val (.int off), .val (.int i), .val (.long v), .second, .val (.int q), .val (.long bt), .second, .val (.int (own_by bt)), .val (.int (own_ib bt)), .val (.long (own_sh v bt bb)), .second, .val (.int 1)] [(.int ((own_by bt) + (1 : Int32))), (.ref io), (.int ((own_by bt) + (1 : Int32))), (.ref io)]))) (fun t k => XS.icmpNo X8.here hx rfl (hb hby d6_136) rfl (tlt c136_9).2.1 (XS.aloadN X8.here hx rfl (hb hby d6_139) rfl rfl (XS.iload X8.here hx rfl (hb hby d6_140) rfl (XS.iload X8.here hx rfl (hb hby d6_142) rfl (XS.iadd X8.here hx rfl (hb hby d6_144) rfl (XT.dup2 X8.here hx rfl (hb hby d6_145) rfl rfl rfl k)))))) ?_
    have vq10 := V6
    obtain ⟨cl10, Ar10, qa10, qs10, qn10, qh10, qg10⟩ := vq10
    have hin10 : ¬ (((own_by bt) + (1 : Int32)) < 0 ∨ cl10.slots.size ≤ (((own_by bt) + (1 : Int32))).toNatClampNeg) := inb_of qs10 (hB.2.2 (1 : Int32) (by decide) c136_9)
    have hat10 : cl10.slots[(((own_by bt) + (1 : Int32))).toNatClampNeg]? = some (.int ((own_upd f ((own_by bt) + (0 : Int32)) (nar .byte (((f ((own_by bt) + (0 : Int32))) ||| ((((((own_sh v bt bb)).toUInt64 >>> ((56 : Int32) &&& 0x3f).toInt64.toUInt64).toInt64)).toInt32).toInt8.toInt32)).toInt8.toInt32)) ((own_by bt) + (1 : Int32)))) := Has.at qh10 hin10 (own_getL (own_upd f ((own_by bt) + (0 : Int32)) (nar .byte (((f ((own_by bt) + (0 : Int32))) ||| ((((((own_sh v bt bb)).toUInt64 >>> ((56 : Int32) &&& 0x3f).toInt64.toUInt64).toInt64)).toInt32).toInt8.toInt32)).toInt8.toInt32)) (hB.2.2 (1 : Int32) (by decide) c136_9))
    refine Wp.back (U' := (T8.setTop (mkF m 147 #[.val (.ref pk), .val (.ref ce), .val (.ref io), .val (.int off), .val (.int i), .val (.long v), .second, .val (.int q), .val (.long bt), .second, .val (.int (own_by bt)), .val (.int (own_ib bt)), .val (.long (own_sh v bt bb)), .second, .val (.int 1)] [(.int ((own_upd f ((own_by bt) + (0 : Int32)) (nar .byte (((f ((own_by bt) + (0 : Int32))) ||| ((((((own_sh v bt bb)).toUInt64 >>> ((56 : Int32) &&& 0x3f).toInt64.toUInt64).toInt64)).toInt32).toInt8.toInt32)).toInt8.toInt32)) ((own_by bt) + (1 : Int32)))), (.int ((own_by bt) + (1 : Int32))), (.ref io)]))) (fun t k => X8.baloadBytes hx (j := ((own_by bt) + (1 : Int32))) (v := (.int ((own_upd f ((own_by bt) + (0 : Int32)) (nar .byte (((f ((own_by bt) + (0 : Int32))) ||| ((((((own_sh v bt bb)).toUInt64 >>> ((56 : Int32) &&& 0x3f).toInt64.toUInt64).toInt64)).toInt32).toInt8.toInt32)).toInt8.toInt32)) ((own_by bt) + (1 : Int32))))) (by rw [e8]; exact Ar10.1) (State.isArrayOf_alike hZ.alike Ar10.2.1) Ar10.2.2 hin10 hat10 (g := (mkF m 146 #[.val (.ref pk), .val (.ref ce), .val (.ref io), .val (.int off), .val (.int i), .val (.long v), .second, .val (.int q), .val (.long bt), .second, .val (.int (own_by bt)), .val (.int (own_ib bt)), .val (.long (own_sh v bt bb)), .second, .val (.int 1)] [(.int ((own_by bt) + (1 : Int32))), (.ref io), (.int ((own_by bt) + (1 : Int32))), (.ref io)])) rfl rfl (hb hby d6_146) t k) ?_
    refine Wp.back (U' := (T8.setTop (mkF m 162 #[.val (.ref pk), .val (.ref ce), .val (.ref io), .val (.int off), .val (.int i), .val (.long v), .second, .val (.int q), .val (.long bt), .second, .val (.int (own_by bt)), .val (.int (own_ib bt)), .val (.long (own_sh v bt bb)), .second, .val (.int 1)] [(.int ((((own_upd f ((own_by bt) + (0 : Int32)) (nar .byte (((f ((own_by bt) + (0 : Int32))) ||| ((((((own_sh v bt bb)).toUInt64 >>> ((56 : Int32) &&& 0x3f).toInt64.toUInt64).toInt64)).toInt32).toInt8.toInt32)).toInt8.toInt32)) ((own_by bt) + (1 : Int32))) ||| ((((((own_sh v bt bb)).toUInt64 >>> ((48 : Int32) &&& 0x3f).toInt64.toUInt64).toInt64)).toInt32).toInt8.toInt32)).toInt8.toInt32), (.int ((own_by bt) + (1 : Int32))), (.ref io)]))) (fun t k => XS.lload X8.here hx rfl (hb hby d6_147) rfl (XT.bipushV X8.here hx rfl 56 (hb hby d6_149) (by decide) (XT.bipushV X8.here hx rfl 8 (hb hby d6_151) (by decide) (XS.iload X8.here hx rfl (hb hby d6_153) rfl (XS.imul X8.here hx rfl (hb hby d6_155) rfl (XS.isub X8.here hx rfl (hb hby d6_156) rfl (XS.lushr X8.here hx rfl (hb hby d6_157) rfl (XS.l2i X8.here hx rfl (hb hby d6_158) rfl (XS.i2b X8.here hx rfl (hb hby d6_159) rfl (XS.ior X8.here hx rfl (hb hby d6_160) rfl (XS.i2b X8.here hx rfl (hb hby d6_161) rfl k))))))))))) ?_
    have vq11 := V6
    obtain ⟨cl11, Ar11, qa11, qs11, qn11, qh11, qg11⟩ := vq11
    have hin11 : ¬ (((own_by bt) + (1 : Int32)) < 0 ∨ cl11.slots.size ≤ (((own_by bt) + (1 : Int32))).toNatClampNeg) := inb_of qs11 (hB.2.2 (1 : Int32) (by decide) c136_9)
    obtain ⟨T11, h11, X11, e11, W11, st11⟩ := stB X8 hx hZ e8 Ar11 (j := ((own_by bt) + (1 : Int32))) hin11 (g := (mkF m 162 #[.val (.ref pk), .val (.ref ce), .val (.ref io), .val (.int off), .val (.int i), .val (.long v), .second, .val (.int q), .val (.long bt), .second, .val (.int (own_by bt)), .val (.int (own_ib bt)), .val (.long (own_sh v bt bb)), .second, .val (.int 1)] [(.int ((((own_upd f ((own_by bt) + (0 : Int32)) (nar .byte (((f ((own_by bt) + (0 : Int32))) ||| ((((((own_sh v bt bb)).toUInt64 >>> ((56 : Int32) &&& 0x3f).toInt64.toUInt64).toInt64)).toInt32).toInt8.toInt32)).toInt8.toInt32)) ((own_by bt) + (1 : Int32))) ||| ((((((own_sh v bt bb)).toUInt64 >>> ((48 : Int32) &&& 0x3f).toInt64.toUInt64).toInt64)).toInt32).toInt8.toInt32)).toInt8.toInt32), (.int ((own_by bt) + (1 : Int32))), (.ref io)])) rfl rfl (hb hby d6_162)
    have V11 : Arv Z h11 io ko .byte (9 : Int32) (own_L (own_upd (own_upd f ((own_by bt) + (0 : Int32)) (nar .byte (((f ((own_by bt) + (0 : Int32))) ||| ((((((own_sh v bt bb)).toUInt64 >>> ((56 : Int32) &&& 0x3f).toInt64.toUInt64).toInt64)).toInt32).toInt8.toInt32)).toInt8.toInt32)) ((own_by bt) + (1 : Int32)) (nar .byte ((((own_upd f ((own_by bt) + (0 : Int32)) (nar .byte (((f ((own_by bt) + (0 : Int32))) ||| ((((((own_sh v bt bb)).toUInt64 >>> ((56 : Int32) &&& 0x3f).toInt64.toUInt64).toInt64)).toInt32).toInt8.toInt32)).toInt8.toInt32)) ((own_by bt) + (1 : Int32))) ||| ((((((own_sh v bt bb)).toUInt64 >>> ((48 : Int32) &&& 0x3f).toInt64.toUInt64).toInt64)).toInt32).toInt8.toInt32)).toInt8.toInt32))) (.int 0) := own_setL Ar11 qa11 qs11 qn11 qh11 qg11 (fits_nar_byte _) W11 (hB.2.2 (1 : Int32) (by decide) c136_9)
    have f12_0 := Nat.le_trans f7_0 (Keep.of_wr W11).1
    have f12_1 := f7_1.other W11 (Or.inl hpi)
    have f12_2 := f7_2.other W11 (Or.inl hpi)
    have f12_3 := f7_3.wr W11 (Or.inl (List.mem_of_getElem? (i := 0) rfl))
    have N11 := Fr.snoc X11 N6 gio
    refine Wp.back (U' := (T11.setTop (mkF m 163 #[.val (.ref pk), .val (.ref ce), .val (.ref io), .val (.int off), .val (.int i), .val (.long v), .second, .val (.int q), .val (.long bt), .second, .val (.int (own_by bt)), .val (.int (own_ib bt)), .val (.long (own_sh v bt bb)), .second, .val (.int 1)] []))) st11 ?_
    refine Wp.back (U' := (T11.setTop (mkF m 126 #[.val (.ref pk), .val (.ref ce), .val (.ref io), .val (.int off), .val (.int i), .val (.long v), .second, .val (.int q), .val (.long bt), .second, .val (.int (own_by bt)), .val (.int (own_ib bt)), .val (.long (own_sh v bt bb)), .second, .val (.int 2)] [(.ref pk), (.int (own_ib bt)), (.int 2)]))) (fun t k => XT.iincV X11.here hx rfl 1 (hb hby d6_163) (by decide) rfl (l' := #[.val (.ref pk), .val (.ref ce), .val (.ref io), .val (.int off), .val (.int i), .val (.long v), .second, .val (.int q), .val (.long bt), .second, .val (.int (own_by bt)), .val (.int (own_ib bt)), .val (.long (own_sh v bt bb)), .second, .val (.int 2)]) rfl (XS.goto X11.here hx rfl (pc0 := 166) (pc' := 121) rfl (hb hby d6_166) (by decide) (by decide) (XS.iload X11.here hx rfl (hb hby d6_121) rfl (XS.iload X11.here hx rfl (hb hby d6_123) rfl (XS.aloadN X11.here hx rfl (hb hby d6_125) rfl rfl k))))) ?_
    obtain ⟨T13, X13, e13, st13⟩ := getF X11 hx hZ hown (host := "") (Or.inl (ow hw 30 rfl)) Via.refl e11 f12_2 (g := (mkF m 126 #[.val (.ref pk), .val (.ref ce), .val (.ref io), .val (.int off), .val (.int i), .val (.long v), .second, .val (.int q), .val (.long bt), .second, .val (.int (own_by bt)), .val (.int (own_ib bt)), .val (.long (own_sh v bt bb)), .second, .val (.int 2)] [(.ref pk), (.int (own_ib bt)), (.int 2)])) rfl rfl (hb hby d6_126)
    refine Wp.back (U' := (T13.setTop (mkF m 129 #[.val (.ref pk), .val (.ref ce), .val (.ref io), .val (.int off), .val (.int i), .val (.long v), .second, .val (.int q), .val (.long bt), .second, .val (.int (own_by bt)), .val (.int (own_ib bt)), .val (.long (own_sh v bt bb)), .second, .val (.int 2)] [(.int bb), (.int (own_ib bt)), (.int 2)]))) st13 ?_
    refine Wp.back (U' := (T13.setTop (mkF m 136 #[.val (.ref pk), .val (.ref ce), .val (.ref io), .val (.int off), .val (.int i), .val (.long v), .second, .val (.int q), .val (.long bt), .second, .val (.int (own_by bt)), .val (.int (own_ib bt)), .val (.long (own_sh v bt bb)), .second, .val (.int 2)] [(.int ((((own_ib bt) + bb) + (7 : Int32)) / (8 : Int32))), (.int 2)]))) (fun t k => XS.iadd X13.here hx rfl (hb hby d6_129) rfl (XT.bipushV X13.here hx rfl 7 (hb hby d6_130) (by decide) (XS.iadd X13.here hx rfl (hb hby d6_132) rfl (XT.bipushV X13.here hx rfl 8 (hb hby d6_133) (by decide) (XS.idiv X13.here hx rfl (hb hby d6_135) rfl (by decide) k))))) ?_
    show Wp p e below _ (T13.setTop (mkF m 136 #[.val (.ref pk), .val (.ref ce), .val (.ref io), .val (.int off), .val (.int i), .val (.long v), .second, .val (.int q), .val (.long bt), .second, .val (.int (own_by bt)), .val (.int (own_ib bt)), .val (.long (own_sh v bt bb)), .second, .val (.int 2)] [(.int (own_ct bt bb)), (.int 2)]))
    by_cases c136_14 : (2 : Int32) < (own_ct bt bb)
    · refine Wp.back (U' := (T13.setTop (mkF m 146 #[.val (.ref pk), .val (.ref ce), .val (.ref io), .val (.int off), .val (.int i), .val (.long v), .second, .val (.int q), .val (.long bt), .second, .val (.int (own_by bt)), .val (.int (own_ib bt)), .val (.long (own_sh v bt bb)), .second, .val (.int 2)] [(.int ((own_by bt) + (2 : Int32))), (.ref io), (.int ((own_by bt) + (2 : Int32))), (.ref io)]))) (fun t k => XS.icmpNo X13.here hx rfl (hb hby d6_136) rfl (tlt c136_14).2.1 (XS.aloadN X13.here hx rfl (hb hby d6_139) rfl rfl (XS.iload X13.here hx rfl (hb hby d6_140) rfl (XS.iload X13.here hx rfl (hb hby d6_142) rfl (XS.iadd X13.here hx rfl (hb hby d6_144) rfl (XT.dup2 X13.here hx rfl (hb hby d6_145) rfl rfl rfl k)))))) ?_
      have vq15 := V11
      obtain ⟨cl15, Ar15, qa15, qs15, qn15, qh15, qg15⟩ := vq15
      have hin15 : ¬ (((own_by bt) + (2 : Int32)) < 0 ∨ cl15.slots.size ≤ (((own_by bt) + (2 : Int32))).toNatClampNeg) := inb_of qs15 (hB.2.2 (2 : Int32) (by decide) c136_14)
      have hat15 : cl15.slots[(((own_by bt) + (2 : Int32))).toNatClampNeg]? = some (.int ((own_upd (own_upd f ((own_by bt) + (0 : Int32)) (nar .byte (((f ((own_by bt) + (0 : Int32))) ||| ((((((own_sh v bt bb)).toUInt64 >>> ((56 : Int32) &&& 0x3f).toInt64.toUInt64).toInt64)).toInt32).toInt8.toInt32)).toInt8.toInt32)) ((own_by bt) + (1 : Int32)) (nar .byte ((((own_upd f ((own_by bt) + (0 : Int32)) (nar .byte (((f ((own_by bt) + (0 : Int32))) ||| ((((((own_sh v bt bb)).toUInt64 >>> ((56 : Int32) &&& 0x3f).toInt64.toUInt64).toInt64)).toInt32).toInt8.toInt32)).toInt8.toInt32)) ((own_by bt) + (1 : Int32))) ||| ((((((own_sh v bt bb)).toUInt64 >>> ((48 : Int32) &&& 0x3f).toInt64.toUInt64).toInt64)).toInt32).toInt8.toInt32)).toInt8.toInt32)) ((own_by bt) + (2 : Int32)))) := Has.at qh15 hin15 (own_getL (own_upd (own_upd f ((own_by bt) + (0 : Int32)) (nar .byte (((f ((own_by bt) + (0 : Int32))) ||| ((((((own_sh v bt bb)).toUInt64 >>> ((56 : Int32) &&& 0x3f).toInt64.toUInt64).toInt64)).toInt32).toInt8.toInt32)).toInt8.toInt32)) ((own_by bt) + (1 : Int32)) (nar .byte ((((own_upd f ((own_by bt) + (0 : Int32)) (nar .byte (((f ((own_by bt) + (0 : Int32))) ||| ((((((own_sh v bt bb)).toUInt64 >>> ((56 : Int32) &&& 0x3f).toInt64.toUInt64).toInt64)).toInt32).toInt8.toInt32)).toInt8.toInt32)) ((own_by bt) + (1 : Int32))) ||| ((((((own_sh v bt bb)).toUInt64 >>> ((48 : Int32) &&& 0x3f).toInt64.toUInt64).toInt64)).toInt32).toInt8.toInt32)).toInt8.toInt32)) (hB.2.2 (2 : Int32) (by decide) c136_14))
      refine Wp.back (U' := (T13.setTop (mkF m 147 #[.val (.ref pk), .val (.ref ce), .val (.ref io), .val (.int off), .val (.int i), .val (.long v), .second, .val (.int q), .val (.long bt), .second, .val (.int (own_by bt)), .val (.int (own_ib bt)), .val (.long (own_sh v bt bb)), .second, .val (.int 2)] [(.int ((own_upd (own_upd f ((own_by bt) + (0 : Int32)) (nar .byte (((f ((own_by bt) + (0 : Int32))) ||| ((((((own_sh v bt bb)).toUInt64 >>> ((56 : Int32) &&& 0x3f).toInt64.toUInt64).toInt64)).toInt32).toInt8.toInt32)).toInt8.toInt32)) ((own_by bt) + (1 : Int32)) (nar .byte ((((own_upd f ((own_by bt) + (0 : Int32)) (nar .byte (((f ((own_by bt) + (0 : Int32))) ||| ((((((own_sh v bt bb)).toUInt64 >>> ((56 : Int32) &&& 0x3f).toInt64.toUInt64).toInt64)).toInt32).toInt8.toInt32)).toInt8.toInt32)) ((own_by bt) + (1 : Int32))) ||| ((((((own_sh v bt bb)).toUInt64 >>> ((48 : Int32) &&& 0x3f).toInt64.toUInt64).toInt64)).toInt32).toInt8.toInt32)).toInt8.toInt32)) ((own_by bt) + (2 : Int32)))), (.int ((own_by bt) + (2 : Int32))), (.ref io)]))) (fun t k => X13.baloadBytes hx (j := ((own_by bt) + (2 : Int32))) (v := (.int ((own_upd (own_upd f ((own_by bt) + (0 : Int32)) (nar .byte (((f ((own_by bt) + (0 : Int32))) ||| ((((((own_sh v bt bb)).toUInt64 >>> ((56 : Int32) &&& 0x3f).toInt64.toUInt64).toInt64)).toInt32).toInt8.toInt32)).toInt8.toInt32)) ((own_by bt) + (1 : Int32)) (nar .byte ((((own_upd f ((own_by bt) + (0 : Int32)) (nar .byte (((f ((own_by bt) + (0 : Int32))) ||| ((((((own_sh v bt bb)).toUInt64 >>> ((56 : Int32) &&& 0x3f).toInt64.toUInt64).toInt64)).toInt32).toInt8.toInt32)).toInt8.toInt32)) ((own_by bt) + (1 : Int32))) ||| ((((((own_sh v bt bb)).toUInt64 >>> ((48 : Int32) &&& 0x3f).toInt64.toUInt64).toInt64)).toInt32).toInt8.toInt32)).toInt8.toInt32)) ((own_by bt) + (2 : Int32))))) (by rw [e13]; exact Ar15.1) (State.isArrayOf_alike hZ.alike Ar15.2.1) Ar15.2.2 hin15 hat15 (g := (mkF m 146 #[.val (.ref pk), .val (.ref ce), .val (.ref io), .val (.int off), .val (.int i), .val (.long v), .second, .val (.int q), .val (.long bt), .second, .val (.int (own_by bt)), .val (.int (own_ib bt)), .val (.long (own_sh v bt bb)), .second, .val (.int 2)] [(.int ((own_by bt) + (2 : Int32))), (.ref io), (.int ((own_by bt) + (2 : Int32))), (.ref io)])) rfl rfl (hb hby d6_146) t k) ?_
      refine Wp.back (U' := (T13.setTop (mkF m 162 #[.val (.ref pk), .val (.ref ce), .val (.ref io), .val (.int off), .val (.int i), .val (.long v), .second, .val (.int q), .val (.long bt), .second, .val (.int (own_by bt)), .val (.int (own_ib bt)), .val (.long (own_sh v bt bb)), .second, .val (.int 2)] [(.int ((((own_upd (own_upd f ((own_by bt) + (0 : Int32)) (nar .byte (((f ((own_by bt) + (0 : Int32))) ||| ((((((own_sh v bt bb)).toUInt64 >>> ((56 : Int32) &&& 0x3f).toInt64.toUInt64).toInt64)).toInt32).toInt8.toInt32)).toInt8.toInt32)) ((own_by bt) + (1 : Int32)) (nar .byte ((((own_upd f ((own_by bt) + (0 : Int32)) (nar .byte (((f ((own_by bt) + (0 : Int32))) ||| ((((((own_sh v bt bb)).toUInt64 >>> ((56 : Int32) &&& 0x3f).toInt64.toUInt64).toInt64)).toInt32).toInt8.toInt32)).toInt8.toInt32)) ((own_by bt) + (1 : Int32))) ||| ((((((own_sh v bt bb)).toUInt64 >>> ((48 : Int32) &&& 0x3f).toInt64.toUInt64).toInt64)).toInt32).toInt8.toInt32)).toInt8.toInt32)) ((own_by bt) + (2 : Int32))) ||| ((((((own_sh v bt bb)).toUInt64 >>> ((40 : Int32) &&& 0x3f).toInt64.toUInt64).toInt64)).toInt32).toInt8.toInt32)).toInt8.toInt32), (.int ((own_by bt) + (2 : Int32))), (.ref io)]))) (fun t k => XS.lload X13.here hx rfl (hb hby d6_147) rfl (XT.bipushV X13.here hx rfl 56 (hb hby d6_149) (by decide) (XT.bipushV X13.here hx rfl 8 (hb hby d6_151) (by decide) (XS.iload X13.here hx rfl (hb hby d6_153) rfl (XS.imul X13.here hx rfl (hb hby d6_155) rfl (XS.isub X13.here hx rfl (hb hby d6_156) rfl (XS.lushr X13.here hx rfl (hb hby d6_157) rfl (XS.l2i X13.here hx rfl (hb hby d6_158) rfl (XS.i2b X13.here hx rfl (hb hby d6_159) rfl (XS.ior X13.here hx rfl (hb hby d6_160) rfl (XS.i2b X13.here hx rfl (hb hby d6_161) rfl k))))))))))) ?_
      have vq16 := V11
      obtain ⟨cl16, Ar16, qa16, qs16, qn16, qh16, qg16⟩ := vq16
      have hin16 : ¬ (((own_by bt) + (2 : Int32)) < 0 ∨ cl16.slots.size ≤ (((own_by bt) + (2 : Int32))).toNatClampNeg) := inb_of qs16 (hB.2.2 (2 : Int32) (by decide) c136_14)
      obtain ⟨T16, h16, X16, e16, W16, st16⟩ := stB X13 hx hZ e13 Ar16 (j := ((own_by bt) + (2 : Int32))) hin16 (g := (mkF m 162 #[.val (.ref pk), .val (.ref ce), .val (.ref io), .val (.int off), .val (.int i), .val (.long v), .second, .val (.int q), .val (.long bt), .second, .val (.int (own_by bt)), .val (.int (own_ib bt)), .val (.long (own_sh v bt bb)), .second, .val (.int 2)] [(.int ((((own_upd (own_upd f ((own_by bt) + (0 : Int32)) (nar .byte (((f ((own_by bt) + (0 : Int32))) ||| ((((((own_sh v bt bb)).toUInt64 >>> ((56 : Int32) &&& 0x3f).toInt64.toUInt64).toInt64)).toInt32).toInt8.toInt32)).toInt8.toInt32)) ((own_by bt) + (1 : Int32)) (nar .byte ((((own_upd f ((own_by bt) + (0 : Int32)) (nar .byte (((f ((own_by bt) + (0 : Int32))) ||| ((((((own_sh v bt bb)).toUInt64 >>> ((56 : Int32) &&& 0x3f).toInt64.toUInt64).toInt64)).toInt32).toInt8.toInt32)).toInt8.toInt32)) ((own_by bt) + (1 : Int32))) ||| ((((((own_sh v bt bb)).toUInt64 >>> ((48 : Int32) &&& 0x3f).toInt64.toUInt64).toInt64)).toInt32).toInt8.toInt32)).toInt8.toInt32)) ((own_by bt) + (2 : Int32))) ||| ((((((own_sh v bt bb)).toUInt64 >>> ((40 : Int32) &&& 0x3f).toInt64.toUInt64).toInt64)).toInt32).toInt8.toInt32)).toInt8.toInt32), (.int ((own_by bt) + (2 : Int32))), (.ref io)])) rfl rfl (hb hby d6_162)
      have V16 : Arv Z h16 io ko .byte (9 : Int32) (own_L (own_upd (own_upd (own_upd f ((own_by bt) + (0 : Int32)) (nar .byte (((f ((own_by bt) + (0 : Int32))) ||| ((((((own_sh v bt bb)).toUInt64 >>> ((56 : Int32) &&& 0x3f).toInt64.toUInt64).toInt64)).toInt32).toInt8.toInt32)).toInt8.toInt32)) ((own_by bt) + (1 : Int32)) (nar .byte ((((own_upd f ((own_by bt) + (0 : Int32)) (nar .byte (((f ((own_by bt) + (0 : Int32))) ||| ((((((own_sh v bt bb)).toUInt64 >>> ((56 : Int32) &&& 0x3f).toInt64.toUInt64).toInt64)).toInt32).toInt8.toInt32)).toInt8.toInt32)) ((own_by bt) + (1 : Int32))) ||| ((((((own_sh v bt bb)).toUInt64 >>> ((48 : Int32) &&& 0x3f).toInt64.toUInt64).toInt64)).toInt32).toInt8.toInt32)).toInt8.toInt32)) ((own_by bt) + (2 : Int32)) (nar .byte ((((own_upd (own_upd f ((own_by bt) + (0 : Int32)) (nar .byte (((f ((own_by bt) + (0 : Int32))) ||| ((((((own_sh v bt bb)).toUInt64 >>> ((56 : Int32) &&& 0x3f).toInt64.toUInt64).toInt64)).toInt32).toInt8.toInt32)).toInt8.toInt32)) ((own_by bt) + (1 : Int32)) (nar .byte ((((own_upd f ((own_by bt) + (0 : Int32)) (nar .byte (((f ((own_by bt) + (0 : Int32))) ||| ((((((own_sh v bt bb)).toUInt64 >>> ((56 : Int32) &&& 0x3f).toInt64.toUInt64).toInt64)).toInt32).toInt8.toInt32)).toInt8.toInt32)) ((own_by bt) + (1 : Int32))) ||| ((((((own_sh v bt bb)).toUInt64 >>> ((48 : Int32) &&& 0x3f).toInt64.toUInt64).toInt64)).toInt32).toInt8.toInt32)).toInt8.toInt32)) ((own_by bt) + (2 : Int32))) ||| ((((((own_sh v bt bb)).toUInt64 >>> ((40 : Int32) &&& 0x3f).toInt64.toUInt64).toInt64)).toInt32).toInt8.toInt32)).toInt8.toInt32))) (.int 0) := own_setL Ar16 qa16 qs16 qn16 qh16 qg16 (fits_nar_byte _) W16 (hB.2.2 (2 : Int32) (by decide) c136_14)
      have f17_0 := Nat.le_trans f12_0 (Keep.of_wr W16).1
      have f17_1 := f12_1.other W16 (Or.inl hpi)
      have f17_2 := f12_2.other W16 (Or.inl hpi)
      have f17_3 := f12_3.wr W16 (Or.inl (List.mem_of_getElem? (i := 0) rfl))
      have N16 := Fr.snoc X16 N11 gio
      refine Wp.back (U' := (T16.setTop (mkF m 163 #[.val (.ref pk), .val (.ref ce), .val (.ref io), .val (.int off), .val (.int i), .val (.long v), .second, .val (.int q), .val (.long bt), .second, .val (.int (own_by bt)), .val (.int (own_ib bt)), .val (.long (own_sh v bt bb)), .second, .val (.int 2)] []))) st16 ?_
      refine Wp.back (U' := (T16.setTop (mkF m 126 #[.val (.ref pk), .val (.ref ce), .val (.ref io), .val (.int off), .val (.int i), .val (.long v), .second, .val (.int q), .val (.long bt), .second, .val (.int (own_by bt)), .val (.int (own_ib bt)), .val (.long (own_sh v bt bb)), .second, .val (.int 3)] [(.ref pk), (.int (own_ib bt)), (.int 3)]))) (fun t k => XT.iincV X16.here hx rfl 1 (hb hby d6_163) (by decide) rfl (l' := #[.val (.ref pk), .val (.ref ce), .val (.ref io), .val (.int off), .val (.int i), .val (.long v), .second, .val (.int q), .val (.long bt), .second, .val (.int (own_by bt)), .val (.int (own_ib bt)), .val (.long (own_sh v bt bb)), .second, .val (.int 3)]) rfl (XS.goto X16.here hx rfl (pc0 := 166) (pc' := 121) rfl (hb hby d6_166) (by decide) (by decide) (XS.iload X16.here hx rfl (hb hby d6_121) rfl (XS.iload X16.here hx rfl (hb hby d6_123) rfl (XS.aloadN X16.here hx rfl (hb hby d6_125) rfl rfl k))))) ?_
      obtain ⟨T18, X18, e18, st18⟩ := getF X16 hx hZ hown (host := "") (Or.inl (ow hw 30 rfl)) Via.refl e16 f17_2 (g := (mkF m 126 #[.val (.ref pk), .val (.ref ce), .val (.ref io), .val (.int off), .val (.int i), .val (.long v), .second, .val (.int q), .val (.long bt), .second, .val (.int (own_by bt)), .val (.int (own_ib bt)), .val (.long (own_sh v bt bb)), .second, .val (.int 3)] [(.ref pk), (.int (own_ib bt)), (.int 3)])) rfl rfl (hb hby d6_126)
      refine Wp.back (U' := (T18.setTop (mkF m 129 #[.val (.ref pk), .val (.ref ce), .val (.ref io), .val (.int off), .val (.int i), .val (.long v), .second, .val (.int q), .val (.long bt), .second, .val (.int (own_by bt)), .val (.int (own_ib bt)), .val (.long (own_sh v bt bb)), .second, .val (.int 3)] [(.int bb), (.int (own_ib bt)), (.int 3)]))) st18 ?_
      refine Wp.back (U' := (T18.setTop (mkF m 136 #[.val (.ref pk), .val (.ref ce), .val (.ref io), .val (.int off), .val (.int i), .val (.long v), .second, .val (.int q), .val (.long bt), .second, .val (.int (own_by bt)), .val (.int (own_ib bt)), .val (.long (own_sh v bt bb)), .second, .val (.int 3)] [(.int ((((own_ib bt) + bb) + (7 : Int32)) / (8 : Int32))), (.int 3)]))) (fun t k => XS.iadd X18.here hx rfl (hb hby d6_129) rfl (XT.bipushV X18.here hx rfl 7 (hb hby d6_130) (by decide) (XS.iadd X18.here hx rfl (hb hby d6_132) rfl (XT.bipushV X18.here hx rfl 8 (hb hby d6_133) (by decide) (XS.idiv X18.here hx rfl (hb hby d6_135) rfl (by decide) k))))) ?_
      show Wp p e below _ (T18.setTop (mkF m 136 #[.val (.ref pk), .val (.ref ce), .val (.ref io), .val (.int off), .val (.int i), .val (.long v), .second, .val (.int q), .val (.long bt), .second, .val (.int (own_by bt)), .val (.int (own_ib bt)), .val (.long (own_sh v bt bb)), .second, .val (.int 3)] [(.int (own_ct bt bb)), (.int 3)]))
      by_cases c136_19 : (3 : Int32) < (own_ct bt bb)
      · refine Wp.back (U' := (T18.setTop (mkF m 146 #[.val (.ref pk), .val (.ref ce), .val (.ref io), .val (.int off), .val (.int i), .val (.long v), .second, .val (.int q), .val (.long bt), .second, .val (.int (own_by bt)), .val (.int (own_ib bt)), .val (.long (own_sh v bt bb)), .second, .val (.int 3)] [(.int ((own_by bt) + (3 : Int32))), (.ref io), (.int ((own_by bt) + (3 : Int32))), (.ref io)]))) (fun t k => XS.icmpNo X18.here hx rfl (hb hby d6_136) rfl (tlt c136_19).2.1 (XS.aloadN X18.here hx rfl (hb hby d6_139) rfl rfl (XS.iload X18.here hx rfl (hb hby d6_140) rfl (XS.iload X18.here hx rfl (hb hby d6_142) rfl (XS.iadd X18.here hx rfl (hb hby d6_144) rfl (XT.dup2 X18.here hx rfl (hb hby d6_145) rfl rfl rfl k)))))) ?_
        have vq20 := V16
        obtain ⟨cl20, Ar20, qa20, qs20, qn20, qh20, qg20⟩ := vq20
        have hin20 : ¬ (((own_by bt) + (3 : Int32)) < 0 ∨ cl20.slots.size ≤ (((own_by bt) + (3 : Int32))).toNatClampNeg) := inb_of qs20 (hB.2.2 (3 : Int32) (by decide) c136_19)
        have hat20 : cl20.slots[(((own_by bt) + (3 : Int32))).toNatClampNeg]? = some (.int ((own_upd (own_upd (own_upd f ((own_by bt) + (0 : Int32)) (nar .byte (((f ((own_by bt) + (0 : Int32))) ||| ((((((own_sh v bt bb)).toUInt64 >>> ((56 : Int32) &&& 0x3f).toInt64.toUInt64).toInt64)).toInt32).toInt8.toInt32)).toInt8.toInt32)) ((own_by bt) + (1 : Int32)) (nar .byte ((((own_upd f ((own_by bt) + (0 : Int32)) (nar .byte (((f ((own_by bt) + (0 : Int32))) ||| ((((((own_sh v bt bb)).toUInt64 >>> ((56 : Int32) &&& 0x3f).toInt64.toUInt64).toInt64)).toInt32).toInt8.toInt32)).toInt8.toInt32)) ((own_by bt) + (1 : Int32))) ||| ((((((own_sh v bt bb)).toUInt64 >>> ((48 : Int32) &&& 0x3f).toInt64.toUInt64).toInt64)).toInt32).toInt8.toInt32)).toInt8.toInt32)) ((own_by bt) + (2 : Int32)) (nar .byte ((((own_upd (own_upd f ((own_by bt) + (0 : Int32)) (nar .byte (((f ((own_by bt) + (0 : Int32))) ||| ((((((own_sh v bt bb)).toUInt64 >>> ((56 : Int32) &&& 0x3f).toInt64.toUInt64).toInt64)).toInt32).toInt8.toInt32)).toInt8.toInt32)) ((own_by bt) + (1 : Int32)) (nar .byte ((((own_upd f ((own_by bt) + (0 : Int32)) (nar .byte (((f ((own_by bt) + (0 : Int32))) ||| ((((((own_sh v bt bb)).toUInt64 >>> ((56 : Int32) &&& 0x3f).toInt64.toUInt64).toInt64)).toInt32).toInt8.toInt32)).toInt8.toInt32)) ((own_by bt) + (1 : Int32))) ||| ((((((own_sh v bt bb)).toUInt64 >>> ((48 : Int32) &&& 0x3f).toInt64.toUInt64).toInt64)).toInt32).toInt8.toInt32)).toInt8.toInt32)) ((own_by bt) + (2 : Int32))) ||| ((((((own_sh v bt bb)).toUInt64 >>> ((40 : Int32) &&& 0x3f).toInt64.toUInt64).toInt64)).toInt32).toInt8.toInt32)).toInt8.toInt32)) ((own_by bt) + (3 : Int32)))) := Has.at qh20 hin20 (own_getL (own_upd (own_upd (own_upd f ((own_by bt) + (0 : Int32)) (nar .byte (((f ((own_by bt) + (0 : Int32))) ||| ((((((own_sh v bt bb)).toUInt64 >>> ((56 : Int32) &&& 0x3f).toInt64.toUInt64).toInt64)).toInt32).toInt8.toInt32)).toInt8.toInt32)) ((own_by bt) + (1 : Int32)) (nar .byte ((((own_upd f ((own_by bt) + (0 : Int32)) (nar .byte (((f ((own_by bt) + (0 : Int32))) ||| ((((((own_sh v bt bb)).toUInt64 >>> ((56 : Int32) &&& 0x3f).toInt64.toUInt64).toInt64)).toInt32).toInt8.toInt32)).toInt8.toInt32)) ((own_by bt) + (1 : Int32))) ||| ((((((own_sh v bt bb)).toUInt64 >>> ((48 : Int32) &&& 0x3f).toInt64.toUInt64).toInt64)).toInt32).toInt8.toInt32)).toInt8.toInt32)) ((own_by bt) + (2 : Int32)) (nar .byte ((((own_upd (own_upd f ((own_by bt) + (0 : Int32)) (nar .byte (((f ((own_by bt) + (0 : Int32))) ||| ((((((own_sh v bt bb)).toUInt64 >>> ((56 : Int32) &&& 0x3f).toInt64.toUInt64).toInt64)).toInt32).toInt8.toInt32)).toInt8.toInt32)) ((own_by bt) + (1 : Int32)) (nar .byte ((((own_upd f ((own_by bt) + (0 : Int32)) (nar .byte (((f ((own_by bt) + (0 : Int32))) ||| ((((((own_sh v bt bb)).toUInt64 >>> ((56 : Int32) &&& 0x3f).toInt64.toUInt64).toInt64)).toInt32).toInt8.toInt32)).toInt8.toInt32)) ((own_by bt) + (1 : Int32))) ||| ((((((own_sh v bt bb)).toUInt64 >>> ((48 : Int32) &&& 0x3f).toInt64.toUInt64).toInt64)).toInt32).toInt8.toInt32)).toInt8.toInt32)) ((own_by bt) + (2 : Int32))) ||| ((((((own_sh v bt bb)).toUInt64 >>> ((40 : Int32) &&& 0x3f).toInt64.toUInt64).toInt64)).toInt32).toInt8.toInt32)).toInt8.toInt32)) (hB.2.2 (3 : Int32) (by decide) c136_19))
        refine Wp.back (U' := (T18.setTop (mkF m 147 #[.val (.ref pk), .val (.ref ce), .val (.ref io), .val (.int off), .val (.int i), .val (.long v), .second, .val (.int q), .val (.long bt), .second, .val (.int (own_by bt)), .val (.int (own_ib bt)), .val (.long (own_sh v bt bb)), .second, .val (.int 3)] [(.int ((own_upd (own_upd (own_upd f ((own_by bt) + (0 : Int32)) (nar .byte (((f ((own_by bt) + (0 : Int32))) ||| ((((((own_sh v bt bb)).toUInt64 >>> ((56 : Int32) &&& 0x3f).toInt64.toUInt64).toInt64)).toInt32).toInt8.toInt32)).toInt8.toInt32)) ((own_by bt) + (1 : Int32)) (nar .byte ((((own_upd f ((own_by bt) + (0 : Int32)) (nar .byte (((f ((own_by bt) + (0 : Int32))) ||| ((((((own_sh v bt bb)).toUInt64 >>> ((56 : Int32) &&& 0x3f).toInt64.toUInt64).toInt64)).toInt32).toInt8.toInt32)).toInt8.toInt32)) ((own_by bt) + (1 : Int32))) ||| ((((((own_sh v bt bb)).toUInt64 >>> ((48 : Int32) &&& 0x3f).toInt64.toUInt64).toInt64)).toInt32).toInt8.toInt32)).toInt8.toInt32)) ((own_by bt) + (2 : Int32)) (nar .byte ((((own_upd (own_upd f ((own_by bt) + (0 : Int32)) (nar .byte (((f ((own_by bt) + (0 : Int32))) ||| ((((((own_sh v bt bb)).toUInt64 >>> ((56 : Int32) &&& 0x3f).toInt64.toUInt64).toInt64)).toInt32).toInt8.toInt32)).toInt8.toInt32)) ((own_by bt) + (1 : Int32)) (nar .byte ((((own_upd f ((own_by bt) + (0 : Int32)) (nar .byte (((f ((own_by bt) + (0 : Int32))) ||| ((((((own_sh v bt bb)).toUInt64 >>> ((56 : Int32) &&& 0x3f).toInt64.toUInt64).toInt64)).toInt32).toInt8.toInt32)).toInt8.toInt32)) ((own_by bt) + (1 : Int32))) ||| ((((((own_sh v bt bb)).toUInt64 >>> ((48 : Int32) &&& 0x3f).toInt64.toUInt64).toInt64)).toInt32).toInt8.toInt32)).toInt8.toInt32)) ((own_by bt) + (2 : Int32))) ||| ((((((own_sh v bt bb)).toUInt64 >>> ((40 : Int32) &&& 0x3f).toInt64.toUInt64).toInt64)).toInt32).toInt8.toInt32)).toInt8.toInt32)) ((own_by bt) + (3 : Int32)))), (.int ((own_by bt) + (3 : Int32))), (.ref io)]))) (fun t k => X18.baloadBytes hx (j := ((own_by bt) + (3 : Int32))) (v := (.int ((own_upd (own_upd (own_upd f ((own_by bt) + (0 : Int32)) (nar .byte (((f ((own_by bt) + (0 : Int32))) ||| ((((((own_sh v bt bb)).toUInt64 >>> ((56 : Int32) &&& 0x3f).toInt64.toUInt64).toInt64)).toInt32).toInt8.toInt32)).toInt8.toInt32)) ((own_by bt) + (1 : Int32)) (nar .byte ((((own_upd f ((own_by bt) + (0 : Int32)) (nar .byte (((f ((own_by bt) + (0 : Int32))) ||| ((((((own_sh v bt bb)).toUInt64 >>> ((56 : Int32) &&& 0x3f).toInt64.toUInt64).toInt64)).toInt32).toInt8.toInt32)).toInt8.toInt32)) ((own_by bt) + (1 : Int32))) ||| ((((((own_sh v bt bb)).toUInt64 >>> ((48 : Int32) &&& 0x3f).toInt64.toUInt64).toInt64)).toInt32).toInt8.toInt32)).toInt8.toInt32)) ((own_by bt) + (2 : Int32)) (nar .byte ((((own_upd (own_upd f ((own_by bt) + (0 : Int32)) (nar .byte (((f ((own_by bt) + (0 : Int32))) ||| ((((((own_sh v bt bb)).toUInt64 >>> ((56 : Int32) &&& 0x3f).toInt64.toUInt64).toInt64)).toInt32).toInt8.toInt32)).toInt8.toInt32)) ((own_by bt) + (1 : Int32)) (nar .byte ((((own_upd f ((own_by bt) + (0 : Int32)) (nar .byte (((f ((own_by bt) + (0 : Int32))) ||| ((((((own_sh v bt bb)).toUInt64 >>> ((56 : Int32) &&& 0x3f).toInt64.toUInt64).toInt64)).toInt32).toInt8.toInt32)).toInt8.toInt32)) ((own_by bt) + (1 : Int32))) ||| ((((((own_sh v bt bb)).toUInt64 >>> ((48 : Int32) &&& 0x3f).toInt64.toUInt64).toInt64)).toInt32).toInt8.toInt32)).toInt8.toInt32)) ((own_by bt) + (2 : Int32))) ||| ((((((own_sh v bt bb)).toUInt64 >>> ((40 : Int32) &&& 0x3f).toInt64.toUInt64).toInt64)).toInt32).toInt8.toInt32)).toInt8.toInt32)) ((own_by bt) + (3 : Int32))))) (by rw [e18]; exact Ar20.1) (State.isArrayOf_alike hZ.alike Ar20.2.1) Ar20.2.2 hin20 hat20 (g := (mkF m 146 #[.val (.ref pk), .val (.ref ce), .val (.ref io), .val (.int off), .val (.int i), .val (.long v), .second, .val (.int q), .val (.long bt), .second, .val (.int (own_by bt)), .val (.int (own_ib bt)), .val (.long (own_sh v bt bb)), .second, .val (.int 3)] [(.int ((own_by bt) + (3 : Int32))), (.ref io), (.int ((own_by bt) + (3 : Int32))), (.ref io)])) rfl rfl (hb hby d6_146) t k) ?_
        refine Wp.back (U' := (T18.setTop (mkF m 162 #[.val (.ref pk), .val (.ref ce), .val (.ref io), .val (.int off), .val (.int i), .val (.long v), .second, .val (.int q), .val (.long bt), .second, .val (.int (own_by bt)), .val (.int (own_ib bt)), .val (.long (own_sh v bt bb)), .second, .val (.int 3)] [(.int ((((own_upd (own_upd (own_upd f ((own_by bt) + (0 : Int32)) (nar .byte (((f ((own_by bt) + (0 : Int32))) ||| ((((((own_sh v bt bb)).toUInt64 >>> ((56 : Int32) &&& 0x3f).toInt64.toUInt64).toInt64)).toInt32).toInt8.toInt32)).toInt8.toInt32)) ((own_by bt) + (1 : Int32)) (nar .byte ((((own_upd f ((own_by bt) + (0 : Int32)) (nar .byte (((f ((own_by bt) + (0 : Int32))) ||| ((((((own_sh v bt bb)).toUInt64 >>> ((56 : Int32) &&& 0x3f).toInt64.toUInt64).toInt64)).toInt32).toInt8.toInt32)).toInt8.toInt32)) ((own_by bt) + (1 : Int32))) ||| ((((((own_sh v bt bb)).toUInt64 >>> ((48 : Int32) &&& 0x3f).toInt64.toUInt64).toInt64)).toInt32).toInt8.toInt32)).toInt8.toInt32)) ((own_by bt) + (2 : Int32)) (nar .byte ((((own_upd (own_upd f ((own_by bt) + (0 : Int32)) (nar .byte (((f ((own_by bt) + (0 : Int32))) ||| ((((((own_sh v bt bb)).toUInt64 >>> ((56 : Int32) &&& 0x3f).toInt64.toUInt64).toInt64)).toInt32).toInt8.toInt32)).toInt8.toInt32)) ((own_by bt) + (1 : Int32)) (nar .byte ((((own_upd f ((own_by bt) + (0 : Int32)) (nar .byte (((f ((own_by bt) + (0 : Int32))) ||| ((((((own_sh v bt bb)).toUInt64 >>> ((56 : Int32) &&& 0x3f).toInt64.toUInt64).toInt64)).toInt32).toInt8.toInt32)).toInt8.toInt32)) ((own_by bt) + (1 : Int32))) ||| ((((((own_sh v bt bb)).toUInt64 >>> ((48 : Int32) &&& 0x3f).toInt64.toUInt64).toInt64)).toInt32).toInt8.toInt32)).toInt8.toInt32)) ((own_by bt) + (2 : Int32))) ||| ((((((own_sh v bt bb)).toUInt64 >>> ((40 : Int32) &&& 0x3f).toInt64.toUInt64).toInt64)).toInt32).toInt8.toInt32)).toInt8.toInt32)) ((own_by bt) + (3 : Int32))) ||| ((((((own_sh v bt bb)).toUInt64 >>> ((32 : Int32) &&& 0x3f).toInt64.toUInt64).toInt64)).toInt32).toInt8.toInt32)).toInt8.toInt32), (.int ((own_by bt) + (3 : Int32))), (.ref io)]))) (fun t k => XS.lload X18.here hx rfl (hb hby d6_147) rfl (XT.bipushV X18.here hx rfl 56 (hb hby d6_149) (by decide) (XT.bipushV X18.here hx rfl 8 (hb hby d6_151) (by decide) (XS.iload X18.here hx rfl (hb hby d6_153) rfl (XS.imul X18.here hx rfl (hb hby d6_155) rfl (XS.isub X18.here hx rfl (hb hby d6_156) rfl (XS.lushr X18.here hx rfl (hb hby d6_157) rfl (XS.l2i X18.here hx rfl (hb hby d6_158) rfl (XS.i2b X18.here hx rfl (hb hby d6_159) rfl (XS.ior X18.here hx rfl (hb hby d6_160) rfl (XS.i2b X18.here hx rfl (hb hby d6_161) rfl k))))))))))) ?_
        have vq21 := V16
        obtain ⟨cl21, Ar21, qa21, qs21, qn21, qh21, qg21⟩ := vq21
        have hin21 : ¬ (((own_by bt) + (3 : Int32)) < 0 ∨ cl21.slots.size ≤ (((own_by bt) + (3 : Int32))).toNatClampNeg) := inb_of qs21 (hB.2.2 (3 : Int32) (by decide) c136_19)
        obtain ⟨T21, h21, X21, e21, W21, st21⟩ := stB X18 hx hZ e18 Ar21 (j := ((own_by bt) + (3 : Int32))) hin21 (g := (mkF m 162 #[.val (.ref pk), .val (.ref ce), .val (.ref io), .val (.int off), .val (.int i), .val (.long v), .second, .val (.int q), .val (.long bt), .second, .val (.int (own_by bt)), .val (.int (own_ib bt)), .val (.long (own_sh v bt bb)), .second, .val (.int 3)] [(.int ((((own_upd (own_upd (own_upd f ((own_by bt) + (0 : Int32)) (nar .byte (((f ((own_by bt) + (0 : Int32))) ||| ((((((own_sh v bt bb)).toUInt64 >>> ((56 : Int32) &&& 0x3f).toInt64.toUInt64).toInt64)).toInt32).toInt8.toInt32)).toInt8.toInt32)) ((own_by bt) + (1 : Int32)) (nar .byte ((((own_upd f ((own_by bt) + (0 : Int32)) (nar .byte (((f ((own_by bt) + (0 : Int32))) ||| ((((((own_sh v bt bb)).toUInt64 >>> ((56 : Int32) &&& 0x3f).toInt64.toUInt64).toInt64)).toInt32).toInt8.toInt32)).toInt8.toInt32)) ((own_by bt) + (1 : Int32))) ||| ((((((own_sh v bt bb)).toUInt64 >>> ((48 : Int32) &&& 0x3f).toInt64.toUInt64).toInt64)).toInt32).toInt8.toInt32)).toInt8.toInt32)) ((own_by bt) + (2 : Int32)) (nar .byte ((((own_upd (own_upd f ((own_by bt) + (0 : Int32)) (nar .byte (((f ((own_by bt) + (0 : Int32))) ||| ((((((own_sh v bt bb)).toUInt64 >>> ((56 : Int32) &&& 0x3f).toInt64.toUInt64).toInt64)).toInt32).toInt8.toInt32)).toInt8.toInt32)) ((own_by bt) + (1 : Int32)) (nar .byte ((((own_upd f ((own_by bt) + (0 : Int32)) (nar .byte (((f ((own_by bt) + (0 : Int32))) ||| ((((((own_sh v bt bb)).toUInt64 >>> ((56 : Int32) &&& 0x3f).toInt64.toUInt64).toInt64)).toInt32).toInt8.toInt32)).toInt8.toInt32)) ((own_by bt) + (1 : Int32))) ||| ((((((own_sh v bt bb)).toUInt64 >>> ((48 : Int32) &&& 0x3f).toInt64.toUInt64).toInt64)).toInt32).toInt8.toInt32)).toInt8.toInt32)) ((own_by bt) + (2 : Int32))) ||| ((((((own_sh v bt bb)).toUInt64 >>> ((40 : Int32) &&& 0x3f).toInt64.toUInt64).toInt64)).toInt32).toInt8.toInt32)).toInt8.toInt32)) ((own_by bt) + (3 : Int32))) ||| ((((((own_sh v bt bb)).toUInt64 >>> ((32 : Int32) &&& 0x3f).toInt64.toUInt64).toInt64)).toInt32).toInt8.toInt32)).toInt8.toInt32), (.int ((own_by bt) + (3 : Int32))), (.ref io)])) rfl rfl (hb hby d6_162)
        have V21 : Arv Z h21 io ko .byte (9 : Int32) (own_L (own_upd (own_upd (own_upd (own_upd f ((own_by bt) + (0 : Int32)) (nar .byte (((f ((own_by bt) + (0 : Int32))) ||| ((((((own_sh v bt bb)).toUInt64 >>> ((56 : Int32) &&& 0x3f).toInt64.toUInt64).toInt64)).toInt32).toInt8.toInt32)).toInt8.toInt32)) ((own_by bt) + (1 : Int32)) (nar .byte ((((own_upd f ((own_by bt) + (0 : Int32)) (nar .byte (((f ((own_by bt) + (0 : Int32))) ||| ((((((own_sh v bt bb)).toUInt64 >>> ((56 : Int32) &&& 0x3f).toInt64.toUInt64).toInt64)).toInt32).toInt8.toInt32)).toInt8.toInt32)) ((own_by bt) + (1 : Int32))) ||| ((((((own_sh v bt bb)).toUInt64 >>> ((48 : Int32) &&& 0x3f).toInt64.toUInt64).toInt64)).toInt32).toInt8.toInt32)).toInt8.toInt32)) ((own_by bt) + (2 : Int32)) (nar .byte ((((own_upd (own_upd f ((own_by bt) + (0 : Int32)) (nar .byte (((f ((own_by bt) + (0 : Int32))) ||| ((((((own_sh v bt bb)).toUInt64 >>> ((56 : Int32) &&& 0x3f).toInt64.toUInt64).toInt64)).toInt32).toInt8.toInt32)).toInt8.toInt32)) ((own_by bt) + (1 : Int32)) (nar .byte ((((own_upd f ((own_by bt) + (0 : Int32)) (nar .byte (((f ((own_by bt) + (0 : Int32))) ||| ((((((own_sh v bt bb)).toUInt64 >>> ((56 : Int32) &&& 0x3f).toInt64.toUInt64).toInt64)).toInt32).toInt8.toInt32)).toInt8.toInt32)) ((own_by bt) + (1 : Int32))) ||| ((((((own_sh v bt bb)).toUInt64 >>> ((48 : Int32) &&& 0x3f).toInt64.toUInt64).toInt64)).toInt32).toInt8.toInt32)).toInt8.toInt32)) ((own_by bt) + (2 : Int32))) ||| ((((((own_sh v bt bb)).toUInt64 >>> ((40 : Int32) &&& 0x3f).toInt64.toUInt64).toInt64)).toInt32).toInt8.toInt32)).toInt8.toInt32)) ((own_by bt) + (3 : Int32)) (nar .byte ((((own_upd (own_upd (own_upd f ((own_by bt) + (0 : Int32)) (nar .byte (((f ((own_by bt) + (0 : Int32))) ||| ((((((own_sh v bt bb)).toUInt64 >>> ((56 : Int32) &&& 0x3f).toInt64.toUInt64).toInt64)).toInt32).toInt8.toInt32)).toInt8.toInt32)) ((own_by bt) + (1 : Int32)) (nar .byte ((((own_upd f ((own_by bt) + (0 : Int32)) (nar .byte (((f ((own_by bt) + (0 : Int32))) ||| ((((((own_sh v bt bb)).toUInt64 >>> ((56 : Int32) &&& 0x3f).toInt64.toUInt64).toInt64)).toInt32).toInt8.toInt32)).toInt8.toInt32)) ((own_by bt) + (1 : Int32))) ||| ((((((own_sh v bt bb)).toUInt64 >>> ((48 : Int32) &&& 0x3f).toInt64.toUInt64).toInt64)).toInt32).toInt8.toInt32)).toInt8.toInt32)) ((own_by bt) + (2 : Int32)) (nar .byte ((((own_upd (own_upd f ((own_by bt) + (0 : Int32)) (nar .byte (((f ((own_by bt) + (0 : Int32))) ||| ((((((own_sh v bt bb)).toUInt64 >>> ((56 : Int32) &&& 0x3f).toInt64.toUInt64).toInt64)).toInt32).toInt8.toInt32)).toInt8.toInt32)) ((own_by bt) + (1 : Int32)) (nar .byte ((((own_upd f ((own_by bt) + (0 : Int32)) (nar .byte (((f ((own_by bt) + (0 : Int32))) ||| ((((((own_sh v bt bb)).toUInt64 >>> ((56 : Int32) &&& 0x3f).toInt64.toUInt64).toInt64)).toInt32).toInt8.toInt32)).toInt8.toInt32)) ((own_by bt) + (1 : Int32))) ||| ((((((own_sh v bt bb)).toUInt64 >>> ((48 : Int32) &&& 0x3f).toInt64.toUInt64).toInt64)).toInt32).toInt8.toInt32)).toInt8.toInt32)) ((own_by bt) + (2 : Int32))) ||| ((((((own_sh v bt bb)).toUInt64 >>> ((40 : Int32) &&& 0x3f).toInt64.toUInt64).toInt64)).toInt32).toInt8.toInt32)).toInt8.toInt32)) ((own_by bt) + (3 : Int32))) ||| ((((((own_sh v bt bb)).toUInt64 >>> ((32 : Int32) &&& 0x3f).toInt64.toUInt64).toInt64)).toInt32).toInt8.toInt32)).toInt8.toInt32))) (.int 0) := own_setL Ar21 qa21 qs21 qn21 qh21 qg21 (fits_nar_byte _) W21 (hB.2.2 (3 : Int32) (by decide) c136_19)
        have f22_0 := Nat.le_trans f17_0 (Keep.of_wr W21).1
        have f22_1 := f17_1.other W21 (Or.inl hpi)
        have f22_2 := f17_2.other W21 (Or.inl hpi)
        have f22_3 := f17_3.wr W21 (Or.inl (List.mem_of_getElem? (i := 0) rfl))
        have N21 := Fr.snoc X21 N16 gio
        refine Wp.back (U' := (T21.setTop (mkF m 163 #[.val (.ref pk), .val (.ref ce), .val (.ref io), .val (.int off), .val (.int i), .val (.long v), .second, .val (.int q), .val (.long bt), .second, .val (.int (own_by bt)), .val (.int (own_ib bt)), .val (.long (own_sh v bt bb)), .second, .val (.int 3)] []))) st21 ?_
        refine Wp.back (U' := (T21.setTop (mkF m 126 #[.val (.ref pk), .val (.ref ce), .val (.ref io), .val (.int off), .val (.int i), .val (.long v), .second, .val (.int q), .val (.long bt), .second, .val (.int (own_by bt)), .val (.int (own_ib bt)), .val (.long (own_sh v bt bb)), .second, .val (.int 4)] [(.ref pk), (.int (own_ib bt)), (.int 4)]))) (fun t k => XT.iincV X21.here hx rfl 1 (hb hby d6_163) (by decide) rfl (l' := #[.val (.ref pk), .val (.ref ce), .val (.ref io), .val (.int off), .val (.int i), .val (.long v), .second, .val (.int q), .val (.long bt), .second, .val (.int (own_by bt)), .val (.int (own_ib bt)), .val (.long (own_sh v bt bb)), .second, .val (.int 4)]) rfl (XS.goto X21.here hx rfl (pc0 := 166) (pc' := 121) rfl (hb hby d6_166) (by decide) (by decide) (XS.iload X21.here hx rfl (hb hby d6_121) rfl (XS.iload X21.here hx rfl (hb hby d6_123) rfl (XS.aloadN X21.here hx rfl (hb hby d6_125) rfl rfl k))))) ?_
        obtain ⟨T23, X23, e23, st23⟩ := getF X21 hx hZ hown (host := "") (Or.inl (ow hw 30 rfl)) Via.refl e21 f22_2 (g := (mkF m 126 #[.val (.ref pk), .val (.ref ce), .val (.ref io), .val (.int off), .val (.int i), .val (.long v), .second, .val (.int q), .val (.long bt), .second, .val (.int (own_by bt)), .val (.int (own_ib bt)), .val (.long (own_sh v bt bb)), .second, .val (.int 4)] [(.ref pk), (.int (own_ib bt)), (.int 4)])) rfl rfl (hb hby d6_126)
        refine Wp.back (U' := (T23.setTop (mkF m 129 #[.val (.ref pk), .val (.ref ce), .val (.ref io), .val (.int off), .val (.int i), .val (.long v), .second, .val (.int q), .val (.long bt), .second, .val (.int (own_by bt)), .val (.int (own_ib bt)), .val (.long (own_sh v bt bb)), .second, .val (.int 4)] [(.int bb), (.int (own_ib bt)), (.int 4)]))) st23 ?_
        refine Wp.back (U' := (T23.setTop (mkF m 136 #[.val (.ref pk), .val (.ref ce), .val (.ref io), .val (.int off), .val (.int i), .val (.long v), .second, .val (.int q), .val (.long bt), .second, .val (.int (own_by bt)), .val (.int (own_ib bt)), .val (.long (own_sh v bt bb)), .second, .val (.int 4)] [(.int ((((own_ib bt) + bb) + (7 : Int32)) / (8 : Int32))), (.int 4)]))) (fun t k => XS.iadd X23.here hx rfl (hb hby d6_129) rfl (XT.bipushV X23.here hx rfl 7 (hb hby d6_130) (by decide) (XS.iadd X23.here hx rfl (hb hby d6_132) rfl (XT.bipushV X23.here hx rfl 8 (hb hby d6_133) (by decide) (XS.idiv X23.here hx rfl (hb hby d6_135) rfl (by decide) k))))) ?_
        show Wp p e below _ (T23.setTop (mkF m 136 #[.val (.ref pk), .val (.ref ce), .val (.ref io), .val (.int off), .val (.int i), .val (.long v), .second, .val (.int q), .val (.long bt), .second, .val (.int (own_by bt)), .val (.int (own_ib bt)), .val (.long (own_sh v bt bb)), .second, .val (.int 4)] [(.int (own_ct bt bb)), (.int 4)]))
        refine Wp.back (U' := (T23.setTop (mkF m 169 #[.val (.ref pk), .val (.ref ce), .val (.ref io), .val (.int off), .val (.int i), .val (.long v), .second, .val (.int q), .val (.long bt), .second, .val (.int (own_by bt)), .val (.int (own_ib bt)), .val (.long (own_sh v bt bb)), .second, .val (.int 4)] []))) (fun t k => XS.icmpYes X23.here hx rfl (pc0 := 136) (pc' := 169) rfl (hb hby d6_136) rfl (flt hB.2.1).2.1 (by decide) (by decide) k) ?_
        exact k T23 h21 _ (4 : Int32) X23 e23 N21 f22_3 (by rw [own_turn, if_pos c136_9, if_pos c136_14, if_pos c136_19]; exact V21)
      · refine Wp.back (U' := (T18.setTop (mkF m 169 #[.val (.ref pk), .val (.ref ce), .val (.ref io), .val (.int off), .val (.int i), .val (.long v), .second, .val (.int q), .val (.long bt), .second, .val (.int (own_by bt)), .val (.int (own_ib bt)), .val (.long (own_sh v bt bb)), .second, .val (.int 3)] []))) (fun t k => XS.icmpYes X18.here hx rfl (pc0 := 136) (pc' := 169) rfl (hb hby d6_136) rfl (flt c136_19).2.1 (by decide) (by decide) k) ?_
        exact k T18 h16 _ (3 : Int32) X18 e18 N16 f17_3 (by rw [own_turn, if_pos c136_9, if_pos c136_14, if_neg c136_19]; exact V16)
    · refine Wp.back (U' := (T13.setTop (mkF m 169 #[.val (.ref pk), .val (.ref ce), .val (.ref io), .val (.int off), .val (.int i), .val (.long v), .second, .val (.int q), .val (.long bt), .second, .val (.int (own_by bt)), .val (.int (own_ib bt)), .val (.long (own_sh v bt bb)), .second, .val (.int 2)] []))) (fun t k => XS.icmpYes X13.here hx rfl (pc0 := 136) (pc' := 169) rfl (hb hby d6_136) rfl (flt c136_14).2.1 (by decide) (by decide) k) ?_
      exact k T13 h11 _ (2 : Int32) X13 e13 N11 f12_3 (by rw [own_turn, if_pos c136_9, if_neg c136_14]; exact V11)
  · refine Wp.back (U' := (T8.setTop (mkF m 169 #[.val (.ref pk), .val (.ref ce), .val (.ref io), .val (.int off), .val (.int i), .val (.long v), .second, .val (.int q), .val (.long bt), .second, .val (.int (own_by bt)), .val (.int (own_ib bt)), .val (.long (own_sh v bt bb)), .second, .val (.int 1)] []))) (fun t k => XS.icmpYes X8.here hx rfl (pc0 := 136) (pc' := 169) rfl (hb hby d6_136) rfl (flt c136_9).2.1 (by decide) (by decide) k) ?_
    exact k T8 h6 _ (1 : Int32) X8 e8 N6 f7_3 (by rw [own_turn, if_neg c136_9]; exact V6)
set_option maxRecDepth 65536 in
set_option maxHeartbeats 40000000 in
theorem own_pC1 {p : Program} {l : Launch} {e : Env} {R : Room} {s : State} {m : MethodId} {args : Array Value} {below : List Frame} {meth : Method} {c : Code} {T0 : State} {locs : List Loc} {cells slots : Nat} {Z : State} {a0 : Array Value} {hA : Heap} {n0 : Nat} (pk ce io : Addr) (ko : ClassId) (f : Int32 → Int32) (off i g bb q y8 : Int32) (v bt : Int64) (y10 y11 : Int32) (y12 : Int64) (y14 : Int32)
    (hx : p.tables.exec = Jvm.exec) (hw : ∀ d ∈ tables_1, d.before a0 Z = true) (hby : c.code = prog_4_method_7_code) (hml : c.maxLocals = 15) (hZ : Z.Warmed39 s.vm) (hown : s.vm.findClass "com/example/known_leaks/knownleaks/CellPacking" = some m.cls) (X0 : Stand p l e R s m args below meth c T0 locs cells slots) (e0 : T0.heap = hA) (N0 : Fr n0 locs) (Z0 : n0 ≤ hA.size) (H0 : Fld Z hA pk "com/example/known_leaks/knownleaks/CellPacking" "cellsPerBlock" "I" (.int g)) (H1 : Fld Z hA pk "com/example/known_leaks/knownleaks/CellPacking" "blockBits" "I" (.int bb)) (H2 : Arv Z hA io ko .byte (9 : Int32) (own_L f) (.int 0)) (gio : n0 ≤ io) (hpi : pk ≠ io) (hg0 : g ≠ 0) (hbt : (own_BT off bb ((i / g)).toInt64) = bt) (hB : own_RB bt bb) {G : Outcome → State → Prop}
    (k : ∀ (T' : State) (h' : Heap) (L' : List Loc) (y14' : Int32), Stand p l e R s m args below meth c T' L' cells slots → T'.heap = h' → Fr n0 L' → Keep hA h' [io] → Arv Z h' io ko .byte (9 : Int32) (own_L (own_turn f v bt bb)) (.int 0) → Wp p e below G (T'.setTop (mkF m 169 #[.val (.ref pk), .val (.ref ce), .val (.ref io), .val (.int off), .val (.int i), .val (.long v), .second, .val (.int q), .val (.long bt), .second, .val (.int (own_by bt)), .val (.int (own_ib bt)), .val (.long (own_sh v bt bb)), .second, .val (.int y14')] []))) :
    Wp p e below G (T0.setTop (mkF m 64 #[.val (.ref pk), .val (.ref ce), .val (.ref io), .val (.int off), .val (.int i), .val (.long v), .second, .val (.int q), .val (.int y8), .unset, .val (.int y10), .val (.int y11), .val (.long y12), .second, .val (.int y14)] [])) := by
  refine Wp.back (U' := (T0.setTop (mkF m 73 #[.val (.ref pk), .val (.ref ce), .val (.ref io), .val (.int off), .val (.int i), .val (.long v), .second, .val (.int q), .val (.int y8), .unset, .val (.int y10), .val (.int y11), .val (.long y12), .second, .val (.int y14)] [(.ref pk), (.int i), (.long ((off).toInt64 * (8 : Int64)))]))) (fun t k => XS.iloadN X0.here hx rfl (hb hby d6_64) rfl (XS.i2l X0.here hx rfl (hb hby d6_65) rfl (Jvm.Stand.ldc2J X0 hx hown (mvT hZ (ow hw 57 rfl)) rfl (hb hby d6_66) (XS.lmul X0.here hx rfl (hb hby d6_69) rfl (XS.iload X0.here hx rfl (hb hby d6_70) rfl (XS.aloadN X0.here hx rfl (hb hby d6_72) rfl rfl k)))))) ?_
  obtain ⟨T1, X1, e1, st1⟩ := getF X0 hx hZ hown (host := "") (Or.inl (ow hw 19 rfl)) Via.refl e0 H0 (g := (mkF m 73 #[.val (.ref pk), .val (.ref ce), .val (.ref io), .val (.int off), .val (.int i), .val (.long v), .second, .val (.int q), .val (.int y8), .unset, .val (.int y10), .val (.int y11), .val (.long y12), .second, .val (.int y14)] [(.ref pk), (.int i), (.long ((off).toInt64 * (8 : Int64)))])) rfl rfl (hb hby d6_73)
  refine Wp.back (U' := (T1.setTop (mkF m 76 #[.val (.ref pk), .val (.ref ce), .val (.ref io), .val (.int off), .val (.int i), .val (.long v), .second, .val (.int q), .val (.int y8), .unset, .val (.int y10), .val (.int y11), .val (.long y12), .second, .val (.int y14)] [(.int g), (.int i), (.long ((off).toInt64 * (8 : Int64)))]))) st1 ?_
  refine Wp.back (U' := (T1.setTop (mkF m 79 #[.val (.ref pk), .val (.ref ce), .val (.ref io), .val (.int off), .val (.int i), .val (.long v), .second, .val (.int q), .val (.int y8), .unset, .val (.int y10), .val (.int y11), .val (.long y12), .second, .val (.int y14)] [(.ref pk), (.long ((i / g)).toInt64), (.long ((off).toInt64 * (8 : Int64)))]))) (fun t k => XS.idiv X1.here hx rfl (hb hby d6_76) rfl hg0 (XS.i2l X1.here hx rfl (hb hby d6_77) rfl (XS.aloadN X1.here hx rfl (hb hby d6_78) rfl rfl k))) ?_
  obtain ⟨T2, X2, e2, st2⟩ := getF X1 hx hZ hown (host := "") (Or.inl (ow hw 30 rfl)) Via.refl e1 H1 (g := (mkF m 79 #[.val (.ref pk), .val (.ref ce), .val (.ref io), .val (.int off), .val (.int i), .val (.long v), .second, .val (.int q), .val (.int y8), .unset, .val (.int y10), .val (.int y11), .val (.long y12), .second, .val (.int y14)] [(.ref pk), (.long ((i / g)).toInt64), (.long ((off).toInt64 * (8 : Int64)))])) rfl rfl (hb hby d6_79)
  refine Wp.back (U' := (T2.setTop (mkF m 82 #[.val (.ref pk), .val (.ref ce), .val (.ref io), .val (.int off), .val (.int i), .val (.long v), .second, .val (.int q), .val (.int y8), .unset, .val (.int y10), .val (.int y11), .val (.long y12), .second, .val (.int y14)] [(.int bb), (.long ((i / g)).toInt64), (.long ((off).toInt64 * (8 : Int64)))]))) st2 ?_
  refine Wp.back (U' := (T2.setTop (mkF m 87 #[.val (.ref pk), .val (.ref ce), .val (.ref io), .val (.int off), .val (.int i), .val (.long v), .second, .val (.int q), .val (.long (((off).toInt64 * (8 : Int64)) + (((i / g)).toInt64 * (bb).toInt64))), .second, .val (.int y10), .val (.int y11), .val (.long y12), .second, .val (.int y14)] []))) (fun t k => XS.i2l X2.here hx rfl (hb hby d6_82) rfl (XS.lmul X2.here hx rfl (hb hby d6_83) rfl (XS.ladd X2.here hx rfl (hb hby d6_84) rfl (XS.lstore X2.here hx rfl (hb hby d6_85) rfl (l' := #[.val (.ref pk), .val (.ref ce), .val (.ref io), .val (.int off), .val (.int i), .val (.long v), .second, .val (.int q), .val (.long (((off).toInt64 * (8 : Int64)) + (((i / g)).toInt64 * (bb).toInt64))), .second, .val (.int y10), .val (.int y11), .val (.long y12), .second, .val (.int y14)]) rfl k)))) ?_
  rw [show (((off).toInt64 * (8 : Int64)) + (((i / g)).toInt64 * (bb).toInt64)) = bt from hbt]
  refine Wp.back (U' := (T2.setTop (mkF m 94 #[.val (.ref pk), .val (.ref ce), .val (.ref io), .val (.int off), .val (.int i), .val (.long v), .second, .val (.int q), .val (.long bt), .second, .val (.int ((((bt).toUInt64 >>> ((3 : Int32) &&& 0x3f).toInt64.toUInt64).toInt64)).toInt32), .val (.int y11), .val (.long y12), .second, .val (.int y14)] []))) (fun t k => XS.lload X2.here hx rfl (hb hby d6_87) rfl (XT.iconstV X2.here hx rfl 3 (hb hby d6_89) (by decide) (XS.lushr X2.here hx rfl (hb hby d6_90) rfl (XS.l2i X2.here hx rfl (hb hby d6_91) rfl (XS.istore X2.here hx rfl (hb hby d6_92) rfl (l' := #[.val (.ref pk), .val (.ref ce), .val (.ref io), .val (.int off), .val (.int i), .val (.long v), .second, .val (.int q), .val (.long bt), .second, .val (.int ((((bt).toUInt64 >>> ((3 : Int32) &&& 0x3f).toInt64.toUInt64).toInt64)).toInt32), .val (.int y11), .val (.long y12), .second, .val (.int y14)]) rfl k))))) ?_
  show Wp p e below _ (T2.setTop (mkF m 94 #[.val (.ref pk), .val (.ref ce), .val (.ref io), .val (.int off), .val (.int i), .val (.long v), .second, .val (.int q), .val (.long bt), .second, .val (.int (own_by bt)), .val (.int y11), .val (.long y12), .second, .val (.int y14)] []))
  refine Wp.back (U' := (T2.setTop (mkF m 103 #[.val (.ref pk), .val (.ref ce), .val (.ref io), .val (.int off), .val (.int i), .val (.long v), .second, .val (.int q), .val (.long bt), .second, .val (.int (own_by bt)), .val (.int ((bt &&& (7 : Int64))).toInt32), .val (.long y12), .second, .val (.int y14)] []))) (fun t k => XS.lload X2.here hx rfl (hb hby d6_94) rfl (Jvm.Stand.ldc2J X2 hx hown (mvT hZ (ow hw 58 rfl)) rfl (hb hby d6_96) (XS.land X2.here hx rfl (hb hby d6_99) rfl (XS.l2i X2.here hx rfl (hb hby d6_100) rfl (XS.istore X2.here hx rfl (hb hby d6_101) rfl (l' := #[.val (.ref pk), .val (.ref ce), .val (.ref io), .val (.int off), .val (.int i), .val (.long v), .second, .val (.int q), .val (.long bt), .second, .val (.int (own_by bt)), .val (.int ((bt &&& (7 : Int64))).toInt32), .val (.long y12), .second, .val (.int y14)]) rfl k))))) ?_
  show Wp p e below _ (T2.setTop (mkF m 103 #[.val (.ref pk), .val (.ref ce), .val (.ref io), .val (.int off), .val (.int i), .val (.long v), .second, .val (.int q), .val (.long bt), .second, .val (.int (own_by bt)), .val (.int (own_ib bt)), .val (.long y12), .second, .val (.int y14)] []))
  refine Wp.back (U' := (T2.setTop (mkF m 111 #[.val (.ref pk), .val (.ref ce), .val (.ref io), .val (.int off), .val (.int i), .val (.long v), .second, .val (.int q), .val (.long bt), .second, .val (.int (own_by bt)), .val (.int (own_ib bt)), .val (.long y12), .second, .val (.int y14)] [(.ref pk), (.int ((64 : Int32) - (own_ib bt))), (.long v)]))) (fun t k => XS.lload X2.here hx rfl (hb hby d6_103) rfl (XT.bipushV X2.here hx rfl 64 (hb hby d6_105) (by decide) (XS.iload X2.here hx rfl (hb hby d6_107) rfl (XS.isub X2.here hx rfl (hb hby d6_109) rfl (XS.aloadN X2.here hx rfl (hb hby d6_110) rfl rfl k))))) ?_
  obtain ⟨T3, X3, e3, st3⟩ := getF X2 hx hZ hown (host := "") (Or.inl (ow hw 30 rfl)) Via.refl e2 H1 (g := (mkF m 111 #[.val (.ref pk), .val (.ref ce), .val (.ref io), .val (.int off), .val (.int i), .val (.long v), .second, .val (.int q), .val (.long bt), .second, .val (.int (own_by bt)), .val (.int (own_ib bt)), .val (.long y12), .second, .val (.int y14)] [(.ref pk), (.int ((64 : Int32) - (own_ib bt))), (.long v)])) rfl rfl (hb hby d6_111)
  refine Wp.back (U' := (T3.setTop (mkF m 114 #[.val (.ref pk), .val (.ref ce), .val (.ref io), .val (.int off), .val (.int i), .val (.long v), .second, .val (.int q), .val (.long bt), .second, .val (.int (own_by bt)), .val (.int (own_ib bt)), .val (.long y12), .second, .val (.int y14)] [(.int bb), (.int ((64 : Int32) - (own_ib bt))), (.long v)]))) st3 ?_
  refine Wp.back (U' := (T3.setTop (mkF m 118 #[.val (.ref pk), .val (.ref ce), .val (.ref io), .val (.int off), .val (.int i), .val (.long v), .second, .val (.int q), .val (.long bt), .second, .val (.int (own_by bt)), .val (.int (own_ib bt)), .val (.long (v <<< ((((64 : Int32) - (own_ib bt)) - bb) &&& 0x3f).toInt64)), .second, .val (.int y14)] []))) (fun t k => XS.isub X3.here hx rfl (hb hby d6_114) rfl (XS.lshl X3.here hx rfl (hb hby d6_115) rfl (XS.lstore X3.here hx rfl (hb hby d6_116) rfl (l' := #[.val (.ref pk), .val (.ref ce), .val (.ref io), .val (.int off), .val (.int i), .val (.long v), .second, .val (.int q), .val (.long bt), .second, .val (.int (own_by bt)), .val (.int (own_ib bt)), .val (.long (v <<< ((((64 : Int32) - (own_ib bt)) - bb) &&& 0x3f).toInt64)), .second, .val (.int y14)]) rfl k))) ?_
  show Wp p e below _ (T3.setTop (mkF m 118 #[.val (.ref pk), .val (.ref ce), .val (.ref io), .val (.int off), .val (.int i), .val (.long v), .second, .val (.int q), .val (.long bt), .second, .val (.int (own_by bt)), .val (.int (own_ib bt)), .val (.long (own_sh v bt bb)), .second, .val (.int y14)] []))
  refine Wp.back (U' := (T3.setTop (mkF m 126 #[.val (.ref pk), .val (.ref ce), .val (.ref io), .val (.int off), .val (.int i), .val (.long v), .second, .val (.int q), .val (.long bt), .second, .val (.int (own_by bt)), .val (.int (own_ib bt)), .val (.long (own_sh v bt bb)), .second, .val (.int 0)] [(.ref pk), (.int (own_ib bt)), (.int 0)]))) (fun t k => XT.iconstV X3.here hx rfl 0 (hb hby d6_118) (by decide) (XS.istore X3.here hx rfl (hb hby d6_119) rfl (l' := #[.val (.ref pk), .val (.ref ce), .val (.ref io), .val (.int off), .val (.int i), .val (.long v), .second, .val (.int q), .val (.long bt), .second, .val (.int (own_by bt)), .val (.int (own_ib bt)), .val (.long (own_sh v bt bb)), .second, .val (.int 0)]) rfl (XS.iload X3.here hx rfl (hb hby d6_121) rfl (XS.iload X3.here hx rfl (hb hby d6_123) rfl (XS.aloadN X3.here hx rfl (hb hby d6_125) rfl rfl k))))) ?_
  obtain ⟨T4, X4, e4, st4⟩ := getF X3 hx hZ hown (host := "") (Or.inl (ow hw 30 rfl)) Via.refl e3 H1 (g := (mkF m 126 #[.val (.ref pk), .val (.ref ce), .val (.ref io), .val (.int off), .val (.int i), .val (.long v), .second, .val (.int q), .val (.long bt), .second, .val (.int (own_by bt)), .val (.int (own_ib bt)), .val (.long (own_sh v bt bb)), .second, .val (.int 0)] [(.ref pk), (.int (own_ib bt)), (.int 0)])) rfl rfl (hb hby d6_126)
  refine Wp.back (U' := (T4.setTop (mkF m 129 #[.val (.ref pk), .val (.ref ce), .val (.ref io), .val (.int off), .val (.int i), .val (.long v), .second, .val (.int q), .val (.long bt), .second, .val (.int (own_by bt)), .val (.int (own_ib bt)), .val (.long (own_sh v bt bb)), .second, .val (.int 0)] [(.int bb), (.int (own_ib bt)), (.int 0)]))) st4 ?_
  refine Wp.back (U' := (T4.setTop (mkF m 136 #[.val (.ref pk), .val (.ref ce), .val (.ref io), .val (.int off), .val (.int i), .val (.long v), .second, .val (.int q), .val (.long bt), .second, .val (.int (own_by bt)), .val (.int (own_ib bt)), .val (.long (own_sh v bt bb)), .second, .val (.int 0)] [(.int ((((own_ib bt) + bb) + (7 : Int32)) / (8 : Int32))), (.int 0)]))) (fun t k => XS.iadd X4.here hx rfl (hb hby d6_129) rfl (XT.bipushV X4.here hx rfl 7 (hb hby d6_130) (by decide) (XS.iadd X4.here hx rfl (hb hby d6_132) rfl (XT.bipushV X4.here hx rfl 8 (hb hby d6_133) (by decide) (XS.idiv X4.here hx rfl (hb hby d6_135) rfl (by decide) k))))) ?_
  show Wp p e below _ (T4.setTop (mkF m 136 #[.val (.ref pk), .val (.ref ce), .val (.ref io), .val (.int off), .val (.int i), .val (.long v), .second, .val (.int q), .val (.long bt), .second, .val (.int (own_by bt)), .val (.int (own_ib bt)), .val (.long (own_sh v bt bb)), .second, .val (.int 0)] [(.int (own_ct bt bb)), (.int 0)]))
  refine Wp.back (U' := (T4.setTop (mkF m 146 #[.val (.ref pk), .val (.ref ce), .val (.ref io), .val (.int off), .val (.int i), .val (.long v), .second, .val (.int q), .val (.long bt), .second, .val (.int (own_by bt)), .val (.int (own_ib bt)), .val (.long (own_sh v bt bb)), .second, .val (.int 0)] [(.int ((own_by bt) + (0 : Int32))), (.ref io), (.int ((own_by bt) + (0 : Int32))), (.ref io)]))) (fun t k => XS.icmpNo X4.here hx rfl (hb hby d6_136) rfl (tlt hB.1).2.1 (XS.aloadN X4.here hx rfl (hb hby d6_139) rfl rfl (XS.iload X4.here hx rfl (hb hby d6_140) rfl (XS.iload X4.here hx rfl (hb hby d6_142) rfl (XS.iadd X4.here hx rfl (hb hby d6_144) rfl (XT.dup2 X4.here hx rfl (hb hby d6_145) rfl rfl rfl k)))))) ?_
  have vq5 := H2
  obtain ⟨cl5, Ar5, qa5, qs5, qn5, qh5, qg5⟩ := vq5
  have hin5 : ¬ (((own_by bt) + (0 : Int32)) < 0 ∨ cl5.slots.size ≤ (((own_by bt) + (0 : Int32))).toNatClampNeg) := inb_of qs5 (hB.2.2 (0 : Int32) (by decide) hB.1)
  have hat5 : cl5.slots[(((own_by bt) + (0 : Int32))).toNatClampNeg]? = some (.int (f ((own_by bt) + (0 : Int32)))) := Has.at qh5 hin5 (own_getL f (hB.2.2 (0 : Int32) (by decide) hB.1))
  refine Wp.back (U' := (T4.setTop (mkF m 147 #[.val (.ref pk), .val (.ref ce), .val (.ref io), .val (.int off), .val (.int i), .val (.long v), .second, .val (.int q), .val (.long bt), .second, .val (.int (own_by bt)), .val (.int (own_ib bt)), .val (.long (own_sh v bt bb)), .second, .val (.int 0)] [(.int (f ((own_by bt) + (0 : Int32)))), (.int ((own_by bt) + (0 : Int32))), (.ref io)]))) (fun t k => X4.baloadBytes hx (j := ((own_by bt) + (0 : Int32))) (v := (.int (f ((own_by bt) + (0 : Int32))))) (by rw [e4]; exact Ar5.1) (State.isArrayOf_alike hZ.alike Ar5.2.1) Ar5.2.2 hin5 hat5 (g := (mkF m 146 #[.val (.ref pk), .val (.ref ce), .val (.ref io), .val (.int off), .val (.int i), .val (.long v), .second, .val (.int q), .val (.long bt), .second, .val (.int (own_by bt)), .val (.int (own_ib bt)), .val (.long (own_sh v bt bb)), .second, .val (.int 0)] [(.int ((own_by bt) + (0 : Int32))), (.ref io), (.int ((own_by bt) + (0 : Int32))), (.ref io)])) rfl rfl (hb hby d6_146) t k) ?_
  refine Wp.back (U' := (T4.setTop (mkF m 162 #[.val (.ref pk), .val (.ref ce), .val (.ref io), .val (.int off), .val (.int i), .val (.long v), .second, .val (.int q), .val (.long bt), .second, .val (.int (own_by bt)), .val (.int (own_ib bt)), .val (.long (own_sh v bt bb)), .second, .val (.int 0)] [(.int (((f ((own_by bt) + (0 : Int32))) ||| ((((((own_sh v bt bb)).toUInt64 >>> ((56 : Int32) &&& 0x3f).toInt64.toUInt64).toInt64)).toInt32).toInt8.toInt32)).toInt8.toInt32), (.int ((own_by bt) + (0 : Int32))), (.ref io)]))) (fun t k => XS.lload X4.here hx rfl (hb hby d6_147) rfl (XT.bipushV X4.here hx rfl 56 (hb hby d6_149) (by decide) (XT.bipushV X4.here hx rfl 8 (hb hby d6_151) (by decide) (XS.iload X4.here hx rfl (hb hby d6_153) rfl (XS.imul X4.here hx rfl (hb hby d6_155) rfl (XS.isub X4.here hx rfl (hb hby d6_156) rfl (XS.lushr X4.here hx rfl (hb hby d6_157) rfl (XS.l2i X4.here hx rfl (hb hby d6_158) rfl (XS.i2b X4.here hx rfl (hb hby d6_159) rfl (XS.ior X4.here hx rfl (hb hby d6_160) rfl (XS.i2b X4.here hx rfl (hb hby d6_161) rfl k))))))))))) ?_
  have vq6 := H2
  obtain ⟨cl6, Ar6, qa6, qs6, qn6, qh6, qg6⟩ := vq6
  have hin6 : ¬ (((own_by bt) + (0 : Int32)) < 0 ∨ cl6.slots.size ≤ (((own_by bt) + (0 : Int32))).toNatClampNeg) := inb_of qs6 (hB.2.2 (0 : Int32) (by decide) hB.1)
  obtain ⟨T6, h6, X6, e6, W6, st6⟩ := stB X4 hx hZ e4 Ar6 (j := ((own_by bt) + (0 : Int32))) hin6 (g := (mkF m 162 #[.val (.ref pk), .val (.ref ce), .val (.ref io), .val (.int off), .val (.int i), .val (.long v), .second, .val (.int q), .val (.long bt), .second, .val (.int (own_by bt)), .val (.int (own_ib bt)), .val (.long (own_sh v bt bb)), .second, .val (.int 0)] [(.int (((f ((own_by bt) + (0 : Int32))) ||| ((((((own_sh v bt bb)).toUInt64 >>> ((56 : Int32) &&& 0x3f).toInt64.toUInt64).toInt64)).toInt32).toInt8.toInt32)).toInt8.toInt32), (.int ((own_by bt) + (0 : Int32))), (.ref io)])) rfl rfl (hb hby d6_162)
  have V6 : Arv Z h6 io ko .byte (9 : Int32) (own_L (own_upd f ((own_by bt) + (0 : Int32)) (nar .byte (((f ((own_by bt) + (0 : Int32))) ||| ((((((own_sh v bt bb)).toUInt64 >>> ((56 : Int32) &&& 0x3f).toInt64.toUInt64).toInt64)).toInt32).toInt8.toInt32)).toInt8.toInt32))) (.int 0) := own_setL Ar6 qa6 qs6 qn6 qh6 qg6 (fits_nar_byte _) W6 (hB.2.2 (0 : Int32) (by decide) hB.1)
  have f7_0 := Nat.le_trans Z0 (Keep.of_wr W6).1
  have f7_1 := H0.other W6 (Or.inl hpi)
  have f7_2 := H1.other W6 (Or.inl hpi)
  have f7_3 := (Keep.refl hA [io]).wr W6 (Or.inl (List.mem_of_getElem? (i := 0) rfl))
  have N6 := Fr.snoc X6 N0 gio
  refine Wp.back (U' := (T6.setTop (mkF m 163 #[.val (.ref pk), .val (.ref ce), .val (.ref io), .val (.int off), .val (.int i), .val (.long v), .second, .val (.int q), .val (.long bt), .second, .val (.int (own_by bt)), .val (.int (own_ib bt)), .val (.long (own_sh v bt bb)), .second, .val (.int 0)] []))) st6 ?_
  refine Wp.back (U' := (T6.setTop (mkF m 126 #[.val (.ref pk), .val (.ref ce), .val (.ref io), .val (.int off), .val (.int i), .val (.long v), .second, .val (.int q), .val (.long bt), .second, .val (.int (own_by bt)), .val (.int (own_ib bt)), .val (.long (own_sh v bt bb)), .second, .val (.int 1)] [(.ref pk), (.int (own_ib bt)), (.int 1)]))) (fun t k => XT.iincV X6.here hx rfl 1 (hb hby d6_163) (by decide) rfl (l' := #[.val (.ref pk), .val (.ref ce), .val (.ref io), .val (.int off), .val (.int i), .val (.long v), .second, .val (.int q), .val (.long bt), .second, .val (.int (own_by bt)), .val (.int (own_ib bt)), .val (.long (own_sh v bt bb)), .second, .val (.int 1)]) rfl (XS.goto X6.here hx rfl (pc0 := 166) (pc' := 121) rfl (hb hby d6_166) (by decide) (by decide) (XS.iload X6.here hx rfl (hb hby d6_121) rfl (XS.iload X6.here hx rfl (hb hby d6_123) rfl (XS.aloadN X6.here hx rfl (hb hby d6_125) rfl rfl k))))) ?_
  obtain ⟨T8, X8, e8, st8⟩ := getF X6 hx hZ hown (host := "") (Or.inl (ow hw 30 rfl)) Via.refl e6 f7_2 (g := (mkF m 126 #[.val (.ref pk), .val (.ref ce), .val (.ref io), .val (.int off), .val (.int i), .val (.long v), .second, .val (.int q), .val (.long bt), .second, .val (.int (own_by bt)), .val (.int (own_ib bt)), .val (.long (own_sh v bt bb)), .second, .val (.int 1)] [(.ref pk), (.int (own_ib bt)), (.int 1)])) rfl rfl (hb hby d6_126)
  refine Wp.back (U' := (T8.setTop (mkF m 129 #[.val (.ref pk), .val (.ref ce), .val (.ref io), .val (.int off), .val (.int i), .val (.long v), .second, .val (.int q), .val (.long bt), .second, .val (.int (own_by bt)), .val (.int (own_ib bt)), .val (.long (own_sh v bt bb)), .second, .val (.int 1)] [(.int bb), (.int (own_ib bt)), (.int 1)]))) st8 ?_
  refine Wp.back (U' := (T8.setTop (mkF m 136 #[.val (.ref pk), .val (.ref ce), .val (.ref io), .val (.int off), .val (.int i), .val (.long v), .second, .val (.int q), .val (.long bt), .second, .val (.int (own_by bt)), .val (.int (own_ib bt)), .val (.long (own_sh v bt bb)), .second, .val (.int 1)] [(.int ((((own_ib bt) + bb) + (7 : Int32)) / (8 : Int32))), (.int 1)]))) (fun t k => XS.iadd X8.here hx rfl (hb hby d6_129) rfl (XT.bipushV X8.here hx rfl 7 (hb hby d6_130) (by decide) (XS.iadd X8.here hx rfl (hb hby d6_132) rfl (XT.bipushV X8.here hx rfl 8 (hb hby d6_133) (by decide) (XS.idiv X8.here hx rfl (hb hby d6_135) rfl (by decide) k))))) ?_
  show Wp p e below _ (T8.setTop (mkF m 136 #[.val (.ref pk), .val (.ref ce), .val (.ref io), .val (.int off), .val (.int i), .val (.long v), .second, .val (.int q), .val (.long bt), .second, .val (.int (own_by bt)), .val (.int (own_ib bt)), .val (.long (own_sh v bt bb)), .second, .val (.int 1)] [(.int (own_ct bt bb)), (.int 1)]))
  by_cases c136_9 : (1 : Int32) < (own_ct bt bb)
  · refine Wp.back (U' := (T8.setTop (mkF m 146 #[.val (.ref pk), .val (.ref ce), .val (.ref io), .val (.int off), .val (.int i), .val (.long v), .second, .val (.int q), .val (.long bt), .second, .val (.int (own_by bt)), .val (.int (own_ib bt)), .val (.long (own_sh v bt bb)), .second, .val (.int 1)] [(.int ((own_by bt) + (1 : Int32))), (.ref io), (.int ((own_by bt) + (1 : Int32))), (.ref io)]))) (fun t k => XS.icmpNo X8.here hx rfl (hb hby d6_136) rfl (tlt c136_9).2.1 (XS.aloadN X8.here hx rfl (hb hby d6_139) rfl rfl (XS.iload X8.here hx rfl (hb hby d6_140) rfl (XS.iload X8.here hx rfl (hb hby d6_142) rfl (XS.iadd X8.here hx rfl (hb hby d6_144) rfl (XT.dup2 X8.here hx rfl (hb hby d6_145) rfl rfl rfl k)))))) ?_
    have vq10 := V6
    obtain ⟨cl10, Ar10, qa10, qs10, qn10, qh10, qg10⟩ := vq10
    have hin10 : ¬ (((own_by bt) + (1 : Int32)) < 0 ∨ cl10.slots.size ≤ (((own_by bt) + (1 : Int32))).toNatClampNeg) := inb_of qs10 (hB.2.2 (1 : Int32) (by decide) c136_9)
    have hat10 : cl10.slots[(((own_by bt) + (1 : Int32))).toNatClampNeg]? = some (.int ((own_upd f ((own_by bt) + (0 : Int32)) (nar .byte (((f ((own_by bt) + (0 : Int32))) ||| ((((((own_sh v bt bb)).toUInt64 >>> ((56 : Int32) &&& 0x3f).toInt64.toUInt64).toInt64)).toInt32).toInt8.toInt32)).toInt8.toInt32)) ((own_by bt) + (1 : Int32)))) := Has.at qh10 hin10 (own_getL (own_upd f ((own_by bt) + (0 : Int32)) (nar .byte (((f ((own_by bt) + (0 : Int32))) ||| ((((((own_sh v bt bb)).toUInt64 >>> ((56 : Int32) &&& 0x3f).toInt64.toUInt64).toInt64)).toInt32).toInt8.toInt32)).toInt8.toInt32)) (hB.2.2 (1 : Int32) (by decide) c136_9))
    refine Wp.back (U' := (T8.setTop (mkF m 147 #[.val (.ref pk), .val (.ref ce), .val (.ref io), .val (.int off), .val (.int i), .val (.long v), .second, .val (.int q), .val (.long bt), .second, .val (.int (own_by bt)), .val (.int (own_ib bt)), .val (.long (own_sh v bt bb)), .second, .val (.int 1)] [(.int ((own_upd f ((own_by bt) + (0 : Int32)) (nar .byte (((f ((own_by bt) + (0 : Int32))) ||| ((((((own_sh v bt bb)).toUInt64 >>> ((56 : Int32) &&& 0x3f).toInt64.toUInt64).toInt64)).toInt32).toInt8.toInt32)).toInt8.toInt32)) ((own_by bt) + (1 : Int32)))), (.int ((own_by bt) + (1 : Int32))), (.ref io)]))) (fun t k => X8.baloadBytes hx (j := ((own_by bt) + (1 : Int32))) (v := (.int ((own_upd f ((own_by bt) + (0 : Int32)) (nar .byte (((f ((own_by bt) + (0 : Int32))) ||| ((((((own_sh v bt bb)).toUInt64 >>> ((56 : Int32) &&& 0x3f).toInt64.toUInt64).toInt64)).toInt32).toInt8.toInt32)).toInt8.toInt32)) ((own_by bt) + (1 : Int32))))) (by rw [e8]; exact Ar10.1) (State.isArrayOf_alike hZ.alike Ar10.2.1) Ar10.2.2 hin10 hat10 (g := (mkF m 146 #[.val (.ref pk), .val (.ref ce), .val (.ref io), .val (.int off), .val (.int i), .val (.long v), .second, .val (.int q), .val (.long bt), .second, .val (.int (own_by bt)), .val (.int (own_ib bt)), .val (.long (own_sh v bt bb)), .second, .val (.int 1)] [(.int ((own_by bt) + (1 : Int32))), (.ref io), (.int ((own_by bt) + (1 : Int32))), (.ref io)])) rfl rfl (hb hby d6_146) t k) ?_
    refine Wp.back (U' := (T8.setTop (mkF m 162 #[.val (.ref pk), .val (.ref ce), .val (.ref io), .val (.int off), .val (.int i), .val (.long v), .second, .val (.int q), .val (.long bt), .second, .val (.int (own_by bt)), .val (.int (own_ib bt)), .val (.long (own_sh v bt bb)), .second, .val (.int 1)] [(.int ((((own_upd f ((own_by bt) + (0 : Int32)) (nar .byte (((f ((own_by bt) + (0 : Int32))) ||| ((((((own_sh v bt bb)).toUInt64 >>> ((56 : Int32) &&& 0x3f).toInt64.toUInt64).toInt64)).toInt32).toInt8.toInt32)).toInt8.toInt32)) ((own_by bt) + (1 : Int32))) ||| ((((((own_sh v bt bb)).toUInt64 >>> ((48 : Int32) &&& 0x3f).toInt64.toUInt64).toInt64)).toInt32).toInt8.toInt32)).toInt8.toInt32), (.int ((own_by bt) + (1 : Int32))), (.ref io)]))) (fun t k => XS.lload X8.here hx rfl (hb hby d6_147) rfl (XT.bipushV X8.here hx rfl 56 (hb hby d6_149) (by decide) (XT.bipushV X8.here hx rfl 8 (hb hby d6_151) (by decide) (XS.iload X8.here hx rfl (hb hby d6_153) rfl (XS.imul X8.here hx rfl (hb hby d6_155) rfl (XS.isub X8.here hx rfl (hb hby d6_156) rfl (XS.lushr X8.here hx rfl (hb hby d6_157) rfl (XS.l2i X8.here hx rfl (hb hby d6_158) rfl (XS.i2b X8.here hx rfl (hb hby d6_159) rfl (XS.ior X8.here hx rfl (hb hby d6_160) rfl (XS.i2b X8.here hx rfl (hb hby d6_161) rfl k))))))))))) ?_
    have vq11 := V6
    obtain ⟨cl11, Ar11, qa11, qs11, qn11, qh11, qg11⟩ := vq11
    have hin11 : ¬ (((own_by bt) + (1 : Int32)) < 0 ∨ cl11.slots.size ≤ (((own_by bt) + (1 : Int32))).toNatClampNeg) := inb_of qs11 (hB.2.2 (1 : Int32) (by decide) c136_9)
    obtain ⟨T11, h11, X11, e11, W11, st11⟩ := stB X8 hx hZ e8 Ar11 (j := ((own_by bt) + (1 : Int32))) hin11 (g := (mkF m 162 #[.val (.ref pk), .val (.ref ce), .val (.ref io), .val (.int off), .val (.int i), .val (.long v), .second, .val (.int q), .val (.long bt), .second, .val (.int (own_by bt)), .val (.int (own_ib bt)), .val (.long (own_sh v bt bb)), .second, .val (.int 1)] [(.int ((((own_upd f ((own_by bt) + (0 : Int32)) (nar .byte (((f ((own_by bt) + (0 : Int32))) ||| ((((((own_sh v bt bb)).toUInt64 >>> ((56 : Int32) &&& 0x3f).toInt64.toUInt64).toInt64)).toInt32).toInt8.toInt32)).toInt8.toInt32)) ((own_by bt) + (1 : Int32))) ||| ((((((own_sh v bt bb)).toUInt64 >>> ((48 : Int32) &&& 0x3f).toInt64.toUInt64).toInt64)).toInt32).toInt8.toInt32)).toInt8.toInt32), (.int ((own_by bt) + (1 : Int32))), (.ref io)])) rfl rfl (hb hby d6_162)
    have V11 : Arv Z h11 io ko .byte (9 : Int32) (own_L (own_upd (own_upd f ((own_by bt) + (0 : Int32)) (nar .byte (((f ((own_by bt) + (0 : Int32))) ||| ((((((own_sh v bt bb)).toUInt64 >>> ((56 : Int32) &&& 0x3f).toInt64.toUInt64).toInt64)).toInt32).toInt8.toInt32)).toInt8.toInt32)) ((own_by bt) + (1 : Int32)) (nar .byte ((((own_upd f ((own_by bt) + (0 : Int32)) (nar .byte (((f ((own_by bt) + (0 : Int32))) ||| ((((((own_sh v bt bb)).toUInt64 >>> ((56 : Int32) &&& 0x3f).toInt64.toUInt64).toInt64)).toInt32).toInt8.toInt32)).toInt8.toInt32)) ((own_by bt) + (1 : Int32))) ||| ((((((own_sh v bt bb)).toUInt64 >>> ((48 : Int32) &&& 0x3f).toInt64.toUInt64).toInt64)).toInt32).toInt8.toInt32)).toInt8.toInt32))) (.int 0) := own_setL Ar11 qa11 qs11 qn11 qh11 qg11 (fits_nar_byte _) W11 (hB.2.2 (1 : Int32) (by decide) c136_9)
    have f12_0 := Nat.le_trans f7_0 (Keep.of_wr W11).1
    have f12_1 := f7_1.other W11 (Or.inl hpi)
    have f12_2 := f7_2.other W11 (Or.inl hpi)
    have f12_3 := f7_3.wr W11 (Or.inl (List.mem_of_getElem? (i := 0) rfl))
    have N11 := Fr.snoc X11 N6 gio
    refine Wp.back (U' := (T11.setTop (mkF m 163 #[.val (.ref pk), .val (.ref ce), .val (.ref io), .val (.int off), .val (.int i), .val (.long v), .second, .val (.int q), .val (.long bt), .second, .val (.int (own_by bt)), .val (.int (own_ib bt)), .val (.long (own_sh v bt bb)), .second, .val (.int 1)] []))) st11 ?_
    refine Wp.back (U' := (T11.setTop (mkF m 126 #[.val (.ref pk), .val (.ref ce), .val (.ref io), .val (.int off), .val (.int i), .val (.long v), .second, .val (.int q), .val (.long bt), .second, .val (.int (own_by bt)), .val (.int (own_ib bt)), .val (.long (own_sh v bt bb)), .second, .val (.int 2)] [(.ref pk), (.int (own_ib bt)), (.int 2)]))) (fun t k => XT.iincV X11.here hx rfl 1 (hb hby d6_163) (by decide) rfl (l' := #[.val (.ref pk), .val (.ref ce), .val (.ref io), .val (.int off), .val (.int i), .val (.long v), .second, .val (.int q), .val (.long bt), .second, .val (.int (own_by bt)), .val (.int (own_ib bt)), .val (.long (own_sh v bt bb)), .second, .val (.int 2)]) rfl (XS.goto X11.here hx rfl (pc0 := 166) (pc' := 121) rfl (hb hby d6_166) (by decide) (by decide) (XS.iload X11.here hx rfl (hb hby d6_121) rfl (XS.iload X11.here hx rfl (hb hby d6_123) rfl (XS.aloadN X11.here hx rfl (hb hby d6_125) rfl rfl k))))) ?_
    obtain ⟨T13, X13, e13, st13⟩ := getF X11 hx hZ hown (host := "") (Or.inl (ow hw 30 rfl)) Via.refl e11 f12_2 (g := (mkF m 126 #[.val (.ref pk), .val (.ref ce), .val (.ref io), .val (.int off), .val (.int i), .val (.long v), .second, .val (.int q), .val (.long bt), .second, .val (.int (own_by bt)), .val (.int (own_ib bt)), .val (.long (own_sh v bt bb)), .second, .val (.int 2)] [(.ref pk), (.int (own_ib bt)), (.int 2)])) rfl rfl (hb hby d6_126)
    refine Wp.back (U' := (T13.setTop (mkF m 129 #[.val (.ref pk), .val (.ref ce), .val (.ref io), .val (.int off), .val (.int i), .val (.long v), .second, .val (.int q), .val (.long bt), .second, .val (.int (own_by bt)), .val (.int (own_ib bt)), .val (.long (own_sh v bt bb)), .second, .val (.int 2)] [(.int bb), (.int (own_ib bt)), (.int 2)]))) st13 ?_
    refine Wp.back (U' := (T13.setTop (mkF m 136 #[.val (.ref pk), .val (.ref ce), .val (.ref io), .val (.int off), .val (.int i), .val (.long v), .second, .val (.int q), .val (.long bt), .second, .val (.int (own_by bt)), .val (.int (own_ib bt)), .val (.long (own_sh v bt bb)), .second, .val (.int 2)] [(.int ((((own_ib bt) + bb) + (7 : Int32)) / (8 : Int32))), (.int 2)]))) (fun t k => XS.iadd X13.here hx rfl (hb hby d6_129) rfl (XT.bipushV X13.here hx rfl 7 (hb hby d6_130) (by decide) (XS.iadd X13.here hx rfl (hb hby d6_132) rfl (XT.bipushV X13.here hx rfl 8 (hb hby d6_133) (by decide) (XS.idiv X13.here hx rfl (hb hby d6_135) rfl (by decide) k))))) ?_
    show Wp p e below _ (T13.setTop (mkF m 136 #[.val (.ref pk), .val (.ref ce), .val (.ref io), .val (.int off), .val (.int i), .val (.long v), .second, .val (.int q), .val (.long bt), .second, .val (.int (own_by bt)), .val (.int (own_ib bt)), .val (.long (own_sh v bt bb)), .second, .val (.int 2)] [(.int (own_ct bt bb)), (.int 2)]))
    by_cases c136_14 : (2 : Int32) < (own_ct bt bb)
    · refine Wp.back (U' := (T13.setTop (mkF m 146 #[.val (.ref pk), .val (.ref ce), .val (.ref io), .val (.int off), .val (.int i), .val (.long v), .second, .val (.int q), .val (.long bt), .second, .val (.int (own_by bt)), .val (.int (own_ib bt)), .val (.long (own_sh v bt bb)), .second, .val (.int 2)] [(.int ((own_by bt) + (2 : Int32))), (.ref io), (.int ((own_by bt) + (2 : Int32))), (.ref io)]))) (fun t k => XS.icmpNo X13.here hx rfl (hb hby d6_136) rfl (tlt c136_14).2.1 (XS.aloadN X13.here hx rfl (hb hby d6_139) rfl rfl (XS.iload X13.here hx rfl (hb hby d6_140) rfl (XS.iload X13.here hx rfl (hb hby d6_142) rfl (XS.iadd X13.here hx rfl (hb hby d6_144) rfl (XT.dup2 X13.here hx rfl (hb hby d6_145) rfl rfl rfl k)))))) ?_
      have vq15 := V11
      obtain ⟨cl15, Ar15, qa15, qs15, qn15, qh15, qg15⟩ := vq15
      have hin15 : ¬ (((own_by bt) + (2 : Int32)) < 0 ∨ cl15.slots.size ≤ (((own_by bt) + (2 : Int32))).toNatClampNeg) := inb_of qs15 (hB.2.2 (2 : Int32) (by decide) c136_14)
      have hat15 : cl15.slots[(((own_by bt) + (2 : Int32))).toNatClampNeg]? = some (.int ((own_upd (own_upd f ((own_by bt) + (0 : Int32)) (nar .byte (((f ((own_by bt) + (0 : Int32))) ||| ((((((own_sh v bt bb)).toUInt64 >>> ((56 : Int32) &&& 0x3f).toInt64.toUInt64).toInt64)).toInt32).toInt8.toInt32)).toInt8.toInt32)) ((own_by bt) + (1 : Int32)) (nar .byte ((((own_upd f ((own_by bt) + (0 : Int32)) (nar .byte (((f ((own_by bt) + (0 : Int32))) ||| ((((((own_sh v bt bb)).toUInt64 >>> ((56 : Int32) &&& 0x3f).toInt64.toUInt64).toInt64)).toInt32).toInt8.toInt32)).toInt8.toInt32)) ((own_by bt) + (1 : Int32))) ||| ((((((own_sh v bt bb)).toUInt64 >>> ((48 : Int32) &&& 0x3f).toInt64.toUInt64).toInt64)).toInt32).toInt8.toInt32)).toInt8.toInt32)) ((own_by bt) + (2 : Int32)))) := Has.at qh15 hin15 (own_getL (own_upd (own_upd f ((own_by bt) + (0 : Int32)) (nar .byte (((f ((own_by bt) + (0 : Int32))) ||| ((((((own_sh v bt bb)).toUInt64 >>> ((56 : Int32) &&& 0x3f).toInt64.toUInt64).toInt64)).toInt32).toInt8.toInt32)).toInt8.toInt32)) ((own_by bt) + (1 : Int32)) (nar .byte ((((own_upd f ((own_by bt) + (0 : Int32)) (nar .byte (((f ((own_by bt) + (0 : Int32))) ||| ((((((own_sh v bt bb)).toUInt64 >>> ((56 : Int32) &&& 0x3f).toInt64.toUInt64).toInt64)).toInt32).toInt8.toInt32)).toInt8.toInt32)) ((own_by bt) + (1 : Int32))) ||| ((((((own_sh v bt bb)).toUInt64 >>> ((48 : Int32) &&& 0x3f).toInt64.toUInt64).toInt64)).toInt32).toInt8.toInt32)).toInt8.toInt32)) (hB.2.2 (2 : Int32) (by decide) c136_14))
      refine Wp.back (U' := (T13.setTop (mkF m 147 #[.val (.ref pk), .val (.ref ce), .val (.ref io), .val (.int off), .val (.int i), .val (.long v), .second, .val (.int q), .val (.long bt), .second, .val (.int (own_by bt)), .val (.int (own_ib bt)), .val (.long (own_sh v bt bb)), .second, .val (.int 2)] [(.int ((own_upd (own_upd f ((own_by bt) + (0 : Int32)) (nar .byte (((f ((own_by bt) + (0 : Int32))) ||| ((((((own_sh v bt bb)).toUInt64 >>> ((56 : Int32) &&& 0x3f).toInt64.toUInt64).toInt64)).toInt32).toInt8.toInt32)).toInt8.toInt32)) ((own_by bt) + (1 : Int32)) (nar .byte ((((own_upd f ((own_by bt) + (0 : Int32)) (nar .byte (((f ((own_by bt) + (0 : Int32))) ||| ((((((own_sh v bt bb)).toUInt64 >>> ((56 : Int32) &&& 0x3f).toInt64.toUInt64).toInt64)).toInt32).toInt8.toInt32)).toInt8.toInt32)) ((own_by bt) + (1 : Int32))) ||| ((((((own_sh v bt bb)).toUInt64 >>> ((48 : Int32) &&& 0x3f).toInt64.toUInt64).toInt64)).toInt32).toInt8.toInt32)).toInt8.toInt32)) ((own_by bt) + (2 : Int32)))), (.int ((own_by bt) + (2 : Int32))), (.ref io)]))) (fun t k => X13.baloadBytes hx (j := ((own_by bt) + (2 : Int32))) (v := (.int ((own_upd (own_upd f ((own_by bt) + (0 : Int32)) (nar .byte (((f ((own_by bt) + (0 : Int32))) ||| ((((((own_sh v bt bb)).toUInt64 >>> ((56 : Int32) &&& 0x3f).toInt64.toUInt64).toInt64)).toInt32).toInt8.toInt32)).toInt8.toInt32)) ((own_by bt) + (1 : Int32)) (nar .byte ((((own_upd f ((own_by bt) + (0 : Int32)) (nar .byte (((f ((own_by bt) + (0 : Int32))) ||| ((((((own_sh v bt bb)).toUInt64 >>> ((56 : Int32) &&& 0x3f).toInt64.toUInt64).toInt64)).toInt32).toInt8.toInt32)).toInt8.toInt32)) ((own_by bt) + (1 : Int32))) ||| ((((((own_sh v bt bb)).toUInt64 >>> ((48 : Int32) &&& 0x3f).toInt64.toUInt64).toInt64)).toInt32).toInt8.toInt32)).toInt8.toInt32)) ((own_by bt) + (2 : Int32))))) (by rw [e13]; exact Ar15.1) (State.isArrayOf_alike hZ.alike Ar15.2.1) Ar15.2.2 hin15 hat15 (g := (mkF m 146 #[.val (.ref pk), .val (.ref ce), .val (.ref io), .val (.int off), .val (.int i), .val (.long v), .second, .val (.int q), .val (.long bt), .second, .val (.int (own_by bt)), .val (.int (own_ib bt)), .val (.long (own_sh v bt bb)), .second, .val (.int 2)] [(.int ((own_by bt) + (2 : Int32))), (.ref io), (.int ((own_by bt) + (2 : Int32))), (.ref io)])) rfl rfl (hb hby d6_146) t k) ?_
      refine Wp.back (U' := (T13.setTop (mkF m 162 #[.val (.ref pk), .val (.ref ce), .val (.ref io), .val (.int off), .val (.int i), .val (.long v), .second, .val (.int q), .val (.long bt), .second, .val (.int (own_by bt)), .val (.int (own_ib bt)), .val (.long (own_sh v bt bb)), .second, .val (.int 2)] [(.int ((((own_upd (own_upd f ((own_by bt) + (0 : Int32)) (nar .byte (((f ((own_by bt) + (0 : Int32))) ||| ((((((own_sh v bt bb)).toUInt64 >>> ((56 : Int32) &&& 0x3f).toInt64.toUInt64).toInt64)).toInt32).toInt8.toInt32)).toInt8.toInt32)) ((own_by bt) + (1 : Int32)) (nar .byte ((((own_upd f ((own_by bt) + (0 : Int32)) (nar .byte (((f ((own_by bt) + (0 : Int32))) ||| ((((((own_sh v bt bb)).toUInt64 >>> ((56 : Int32) &&& 0x3f).toInt64.toUInt64).toInt64)).toInt32).toInt8.toInt32)).toInt8.toInt32)) ((own_by bt) + (1 : Int32))) ||| ((((((own_sh v bt bb)).toUInt64 >>> ((48 : Int32) &&& 0x3f).toInt64.toUInt64).toInt64)).toInt32).toInt8.toInt32)).toInt8.toInt32)) ((own_by bt) + (2 : Int32))) ||| ((((((own_sh v bt bb)).toUInt64 >>> ((40 : Int32) &&& 0x3f).toInt64.toUInt64).toInt64)).toInt32).toInt8.toInt32)).toInt8.toInt32), (.int ((own_by bt) + (2 : Int32))), (.ref io)]))) (fun t k => XS.lload X13.here hx rfl (hb hby d6_147) rfl (XT.bipushV X13.here hx rfl 56 (hb hby d6_149) (by decide) (XT.bipushV X13.here hx rfl 8 (hb hby d6_151) (by decide) (XS.iload X13.here hx rfl (hb hby d6_153) rfl (XS.imul X13.here hx rfl (hb hby d6_155) rfl (XS.isub X13.here hx rfl (hb hby d6_156) rfl (XS.lushr X13.here hx rfl (hb hby d6_157) rfl (XS.l2i X13.here hx rfl (hb hby d6_158) rfl (XS.i2b X13.here hx rfl (hb hby d6_159) rfl (XS.ior X13.here hx rfl (hb hby d6_160) rfl (XS.i2b X13.here hx rfl (hb hby d6_161) rfl k))))))))))) ?_
      have vq16 := V11
      obtain ⟨cl16, Ar16, qa16, qs16, qn16, qh16, qg16⟩ := vq16
      have hin16 : ¬ (((own_by bt) + (2 : Int32)) < 0 ∨ cl16.slots.size ≤ (((own_by bt) + (2 : Int32))).toNatClampNeg) := inb_of qs16 (hB.2.2 (2 : Int32) (by decide) c136_14)
      obtain ⟨T16, h16, X16, e16, W16, st16⟩ := stB X13 hx hZ e13 Ar16 (j := ((own_by bt) + (2 : Int32))) hin16 (g := (mkF m 162 #[.val (.ref pk), .val (.ref ce), .val (.ref io), .val (.int off), .val (.int i), .val (.long v), .second, .val (.int q), .val (.long bt), .second, .val (.int (own_by bt)), .val (.int (own_ib bt)), .val (.long (own_sh v bt bb)), .second, .val (.int 2)] [(.int ((((own_upd (own_upd f ((own_by bt) + (0 : Int32)) (nar .byte (((f ((own_by bt) + (0 : Int32))) ||| ((((((own_sh v bt bb)).toUInt64 >>> ((56 : Int32) &&& 0x3f).toInt64.toUInt64).toInt64)).toInt32).toInt8.toInt32)).toInt8.toInt32)) ((own_by bt) + (1 : Int32)) (nar .byte ((((own_upd f ((own_by bt) + (0 : Int32)) (nar .byte (((f ((own_by bt) + (0 : Int32))) ||| ((((((own_sh v bt bb)).toUInt64 >>> ((56 : Int32) &&& 0x3f).toInt64.toUInt64).toInt64)).toInt32).toInt8.toInt32)).toInt8.toInt32)) ((own_by bt) + (1 : Int32))) ||| ((((((own_sh v bt bb)).toUInt64 >>> ((48 : Int32) &&& 0x3f).toInt64.toUInt64).toInt64)).toInt32).toInt8.toInt32)).toInt8.toInt32)) ((own_by bt) + (2 : Int32))) ||| ((((((own_sh v bt bb)).toUInt64 >>> ((40 : Int32) &&& 0x3f).toInt64.toUInt64).toInt64)).toInt32).toInt8.toInt32)).toInt8.toInt32), (.int ((own_by bt) + (2 : Int32))), (.ref io)])) rfl rfl (hb hby d6_162)
      have V16 : Arv Z h16 io ko .byte (9 : Int32) (own_L (own_upd (own_upd (own_upd f ((own_by bt) + (0 : Int32)) (nar .byte (((f ((own_by bt) + (0 : Int32))) ||| ((((((own_sh v bt bb)).toUInt64 >>> ((56 : Int32) &&& 0x3f).toInt64.toUInt64).toInt64)).toInt32).toInt8.toInt32)).toInt8.toInt32)) ((own_by bt) + (1 : Int32)) (nar .byte ((((own_upd f ((own_by bt) + (0 : Int32)) (nar .byte (((f ((own_by bt) + (0 : Int32))) ||| ((((((own_sh v bt bb)).toUInt64 >>> ((56 : Int32) &&& 0x3f).toInt64.toUInt64).toInt64)).toInt32).toInt8.toInt32)).toInt8.toInt32)) ((own_by bt) + (1 : Int32))) ||| ((((((own_sh v bt bb)).toUInt64 >>> ((48 : Int32) &&& 0x3f).toInt64.toUInt64).toInt64)).toInt32).toInt8.toInt32)).toInt8.toInt32)) ((own_by bt) + (2 : Int32)) (nar .byte ((((own_upd (own_upd f ((own_by bt) + (0 : Int32)) (nar .byte (((f ((own_by bt) + (0 : Int32))) ||| ((((((own_sh v bt bb)).toUInt64 >>> ((56 : Int32) &&& 0x3f).toInt64.toUInt64).toInt64)).toInt32).toInt8.toInt32)).toInt8.toInt32)) ((own_by bt) + (1 : Int32)) (nar .byte ((((own_upd f ((own_by bt) + (0 : Int32)) (nar .byte (((f ((own_by bt) + (0 : Int32))) ||| ((((((own_sh v bt bb)).toUInt64 >>> ((56 : Int32) &&& 0x3f).toInt64.toUInt64).toInt64)).toInt32).toInt8.toInt32)).toInt8.toInt32)) ((own_by bt) + (1 : Int32))) ||| ((((((own_sh v bt bb)).toUInt64 >>> ((48 : Int32) &&& 0x3f).toInt64.toUInt64).toInt64)).toInt32).toInt8.toInt32)).toInt8.toInt32)) ((own_by bt) + (2 : Int32))) ||| ((((((own_sh v bt bb)).toUInt64 >>> ((40 : Int32) &&& 0x3f).toInt64.toUInt64).toInt64)).toInt32).toInt8.toInt32)).toInt8.toInt32))) (.int 0) := own_setL Ar16 qa16 qs16 qn16 qh16 qg16 (fits_nar_byte _) W16 (hB.2.2 (2 : Int32) (by decide) c136_14)
      have f17_0 := Nat.le_trans f12_0 (Keep.of_wr W16).1
      have f17_1 := f12_1.other W16 (Or.inl hpi)
      have f17_2 := f12_2.other W16 (Or.inl hpi)
      have f17_3 := f12_3.wr W16 (Or.inl (List.mem_of_getElem? (i := 0) rfl))
      have N16 := Fr.snoc X16 N11 gio
      refine Wp.back (U' := (T16.setTop (mkF m 163 #[.val (.ref pk), .val (.ref ce), .val (.ref io), .val (.int off), .val (.int i), .val (.long v), .second, .val (.int q), .val (.long bt), .second, .val (.int (own_by bt)), .val (.int (own_ib bt)), .val (.long (own_sh v bt bb)), .second, .val (.int 2)] []))) st16 ?_
      refine Wp.back (U' := (T16.setTop (mkF m 126 #[.val (.ref pk), .val (.ref ce), .val (.ref io), .val (.int off), .val (.int i), .val (.long v), .second, .val (.int q), .val (.long bt), .second, .val (.int (own_by bt)), .val (.int (own_ib bt)), .val (.long (own_sh v bt bb)), .second, .val (.int 3)] [(.ref pk), (.int (own_ib bt)), (.int 3)]))) (fun t k => XT.iincV X16.here hx rfl 1 (hb hby d6_163) (by decide) rfl (l' := #[.val (.ref pk), .val (.ref ce), .val (.ref io), .val (.int off), .val (.int i), .val (.long v), .second, .val (.int q), .val (.long bt), .second, .val (.int (own_by bt)), .val (.int (own_ib bt)), .val (.long (own_sh v bt bb)), .second, .val (.int 3)]) rfl (XS.goto X16.here hx rfl (pc0 := 166) (pc' := 121) rfl (hb hby d6_166) (by decide) (by decide) (XS.iload X16.here hx rfl (hb hby d6_121) rfl (XS.iload X16.here hx rfl (hb hby d6_123) rfl (XS.aloadN X16.here hx rfl (hb hby d6_125) rfl rfl k))))) ?_
      obtain ⟨T18, X18, e18, st18⟩ := getF X16 hx hZ hown (host := "") (Or.inl (ow hw 30 rfl)) Via.refl e16 f17_2 (g := (mkF m 126 #[.val (.ref pk), .val (.ref ce), .val (.ref io), .val (.int off), .val (.int i), .val (.long v), .second, .val (.int q), .val (.long bt), .second, .val (.int (own_by bt)), .val (.int (own_ib bt)), .val (.long (own_sh v bt bb)), .second, .val (.int 3)] [(.ref pk), (.int (own_ib bt)), (.int 3)])) rfl rfl (hb hby d6_126)
      refine Wp.back (U' := (T18.setTop (mkF m 129 #[.val (.ref pk), .val (.ref ce), .val (.ref io), .val (.int off), .val (.int i), .val (.long v), .second, .val (.int q), .val (.long bt), .second, .val (.int (own_by bt)), .val (.int (own_ib bt)), .val (.long (own_sh v bt bb)), .second, .val (.int 3)] [(.int bb), (.int (own_ib bt)), (.int 3)]))) st18 ?_
      refine Wp.back (U' := (T18.setTop (mkF m 136 #[.val (.ref pk), .val (.ref ce), .val (.ref io), .val (.int off), .val (.int i), .val (.long v), .second, .val (.int q), .val (.long bt), .second, .val (.int (own_by bt)), .val (.int (own_ib bt)), .val (.long (own_sh v bt bb)), .second, .val (.int 3)] [(.int ((((own_ib bt) + bb) + (7 : Int32)) / (8 : Int32))), (.int 3)]))) (fun t k => XS.iadd X18.here hx rfl (hb hby d6_129) rfl (XT.bipushV X18.here hx rfl 7 (hb hby d6_130) (by decide) (XS.iadd X18.here hx rfl (hb hby d6_132) rfl (XT.bipushV X18.here hx rfl 8 (hb hby d6_133) (by decide) (XS.idiv X18.here hx rfl (hb hby d6_135) rfl (by decide) k))))) ?_
      show Wp p e below _ (T18.setTop (mkF m 136 #[.val (.ref pk), .val (.ref ce), .val (.ref io), .val (.int off), .val (.int i), .val (.long v), .second, .val (.int q), .val (.long bt), .second, .val (.int (own_by bt)), .val (.int (own_ib bt)), .val (.long (own_sh v bt bb)), .second, .val (.int 3)] [(.int (own_ct bt bb)), (.int 3)]))
      by_cases c136_19 : (3 : Int32) < (own_ct bt bb)
      · refine Wp.back (U' := (T18.setTop (mkF m 146 #[.val (.ref pk), .val (.ref ce), .val (.ref io), .val (.int off), .val (.int i), .val (.long v), .second, .val (.int q), .val (.long bt), .second, .val (.int (own_by bt)), .val (.int (own_ib bt)), .val (.long (own_sh v bt bb)), .second, .val (.int 3)] [(.int ((own_by bt) + (3 : Int32))), (.ref io), (.int ((own_by bt) + (3 : Int32))), (.ref io)]))) (fun t k => XS.icmpNo X18.here hx rfl (hb hby d6_136) rfl (tlt c136_19).2.1 (XS.aloadN X18.here hx rfl (hb hby d6_139) rfl rfl (XS.iload X18.here hx rfl (hb hby d6_140) rfl (XS.iload X18.here hx rfl (hb hby d6_142) rfl (XS.iadd X18.here hx rfl (hb hby d6_144) rfl (XT.dup2 X18.here hx rfl (hb hby d6_145) rfl rfl rfl k)))))) ?_
        have vq20 := V16
        obtain ⟨cl20, Ar20, qa20, qs20, qn20, qh20, qg20⟩ := vq20
        have hin20 : ¬ (((own_by bt) + (3 : Int32)) < 0 ∨ cl20.slots.size ≤ (((own_by bt) + (3 : Int32))).toNatClampNeg) := inb_of qs20 (hB.2.2 (3 : Int32) (by decide) c136_19)
        have hat20 : cl20.slots[(((own_by bt) + (3 : Int32))).toNatClampNeg]? = some (.int ((own_upd (own_upd (own_upd f ((own_by bt) + (0 : Int32)) (nar .byte (((f ((own_by bt) + (0 : Int32))) ||| ((((((own_sh v bt bb)).toUInt64 >>> ((56 : Int32) &&& 0x3f).toInt64.toUInt64).toInt64)).toInt32).toInt8.toInt32)).toInt8.toInt32)) ((own_by bt) + (1 : Int32)) (nar .byte ((((own_upd f ((own_by bt) + (0 : Int32)) (nar .byte (((f ((own_by bt) + (0 : Int32))) ||| ((((((own_sh v bt bb)).toUInt64 >>> ((56 : Int32) &&& 0x3f).toInt64.toUInt64).toInt64)).toInt32).toInt8.toInt32)).toInt8.toInt32)) ((own_by bt) + (1 : Int32))) ||| ((((((own_sh v bt bb)).toUInt64 >>> ((48 : Int32) &&& 0x3f).toInt64.toUInt64).toInt64)).toInt32).toInt8.toInt32)).toInt8.toInt32)) ((own_by bt) + (2 : Int32)) (nar .byte ((((own_upd (own_upd f ((own_by bt) + (0 : Int32)) (nar .byte (((f ((own_by bt) + (0 : Int32))) ||| ((((((own_sh v bt bb)).toUInt64 >>> ((56 : Int32) &&& 0x3f).toInt64.toUInt64).toInt64)).toInt32).toInt8.toInt32)).toInt8.toInt32)) ((own_by bt) + (1 : Int32)) (nar .byte ((((own_upd f ((own_by bt) + (0 : Int32)) (nar .byte (((f ((own_by bt) + (0 : Int32))) ||| ((((((own_sh v bt bb)).toUInt64 >>> ((56 : Int32) &&& 0x3f).toInt64.toUInt64).toInt64)).toInt32).toInt8.toInt32)).toInt8.toInt32)) ((own_by bt) + (1 : Int32))) ||| ((((((own_sh v bt bb)).toUInt64 >>> ((48 : Int32) &&& 0x3f).toInt64.toUInt64).toInt64)).toInt32).toInt8.toInt32)).toInt8.toInt32)) ((own_by bt) + (2 : Int32))) ||| ((((((own_sh v bt bb)).toUInt64 >>> ((40 : Int32) &&& 0x3f).toInt64.toUInt64).toInt64)).toInt32).toInt8.toInt32)).toInt8.toInt32)) ((own_by bt) + (3 : Int32)))) := Has.at qh20 hin20 (own_getL (own_upd (own_upd (own_upd f ((own_by bt) + (0 : Int32)) (nar .byte (((f ((own_by bt) + (0 : Int32))) ||| ((((((own_sh v bt bb)).toUInt64 >>> ((56 : Int32) &&& 0x3f).toInt64.toUInt64).toInt64)).toInt32).toInt8.toInt32)).toInt8.toInt32)) ((own_by bt) + (1 : Int32)) (nar .byte ((((own_upd f ((own_by bt) + (0 : Int32)) (nar .byte (((f ((own_by bt) + (0 : Int32))) ||| ((((((own_sh v bt bb)).toUInt64 >>> ((56 : Int32) &&& 0x3f).toInt64.toUInt64).toInt64)).toInt32).toInt8.toInt32)).toInt8.toInt32)) ((own_by bt) + (1 : Int32))) ||| ((((((own_sh v bt bb)).toUInt64 >>> ((48 : Int32) &&& 0x3f).toInt64.toUInt64).toInt64)).toInt32).toInt8.toInt32)).toInt8.toInt32)) ((own_by bt) + (2 : Int32)) (nar .byte ((((own_upd (own_upd f ((own_by bt) + (0 : Int32)) (nar .byte (((f ((own_by bt) + (0 : Int32))) ||| ((((((own_sh v bt bb)).toUInt64 >>> ((56 : Int32) &&& 0x3f).toInt64.toUInt64).toInt64)).toInt32).toInt8.toInt32)).toInt8.toInt32)) ((own_by bt) + (1 : Int32)) (nar .byte ((((own_upd f ((own_by bt) + (0 : Int32)) (nar .byte (((f ((own_by bt) + (0 : Int32))) ||| ((((((own_sh v bt bb)).toUInt64 >>> ((56 : Int32) &&& 0x3f).toInt64.toUInt64).toInt64)).toInt32).toInt8.toInt32)).toInt8.toInt32)) ((own_by bt) + (1 : Int32))) ||| ((((((own_sh v bt bb)).toUInt64 >>> ((48 : Int32) &&& 0x3f).toInt64.toUInt64).toInt64)).toInt32).toInt8.toInt32)).toInt8.toInt32)) ((own_by bt) + (2 : Int32))) ||| ((((((own_sh v bt bb)).toUInt64 >>> ((40 : Int32) &&& 0x3f).toInt64.toUInt64).toInt64)).toInt32).toInt8.toInt32)).toInt8.toInt32)) (hB.2.2 (3 : Int32) (by decide) c136_19))
        refine Wp.back (U' := (T18.setTop (mkF m 147 #[.val (.ref pk), .val (.ref ce), .val (.ref io), .val (.int off), .val (.int i), .val (.long v), .second, .val (.int q), .val (.long bt), .second, .val (.int (own_by bt)), .val (.int (own_ib bt)), .val (.long (own_sh v bt bb)), .second, .val (.int 3)] [(.int ((own_upd (own_upd (own_upd f ((own_by bt) + (0 : Int32)) (nar .byte (((f ((own_by bt) + (0 : Int32))) ||| ((((((own_sh v bt bb)).toUInt64 >>> ((56 : Int32) &&& 0x3f).toInt64.toUInt64).toInt64)).toInt32).toInt8.toInt32)).toInt8.toInt32)) ((own_by bt) + (1 : Int32)) (nar .byte ((((own_upd f ((own_by bt) + (0 : Int32)) (nar .byte (((f ((own_by bt) + (0 : Int32))) ||| ((((((own_sh v bt bb)).toUInt64 >>> ((56 : Int32) &&& 0x3f).toInt64.toUInt64).toInt64)).toInt32).toInt8.toInt32)).toInt8.toInt32)) ((own_by bt) + (1 : Int32))) ||| ((((((own_sh v bt bb)).toUInt64 >>> ((48 : Int32) &&& 0x3f).toInt64.toUInt64).toInt64)).toInt32).toInt8.toInt32)).toInt8.toInt32)) ((own_by bt) + (2 : Int32)) (nar .byte ((((own_upd (own_upd f ((own_by bt) + (0 : Int32)) (nar .byte (((f ((own_by bt) + (0 : Int32))) ||| ((((((own_sh v bt bb)).toUInt64 >>> ((56 : Int32) &&& 0x3f).toInt64.toUInt64).toInt64)).toInt32).toInt8.toInt32)).toInt8.toInt32)) ((own_by bt) + (1 : Int32)) (nar .byte ((((own_upd f ((own_by bt) + (0 : Int32)) (nar .byte (((f ((own_by bt) + (0 : Int32))) ||| ((((((own_sh v bt bb)).toUInt64 >>> ((56 : Int32) &&& 0x3f).toInt64.toUInt64).toInt64)).toInt32).toInt8.toInt32)).toInt8.toInt32)) ((own_by bt) + (1 : Int32))) ||| ((((((own_sh v bt bb)).toUInt64 >>> ((48 : Int32) &&& 0x3f).toInt64.toUInt64).toInt64)).toInt32).toInt8.toInt32)).toInt8.toInt32)) ((own_by bt) + (2 : Int32))) ||| ((((((own_sh v bt bb)).toUInt64 >>> ((40 : Int32) &&& 0x3f).toInt64.toUInt64).toInt64)).toInt32).toInt8.toInt32)).toInt8.toInt32)) ((own_by bt) + (3 : Int32)))), (.int ((own_by bt) + (3 : Int32))), (.ref io)]))) (fun t k => X18.baloadBytes hx (j := ((own_by bt) + (3 : Int32))) (v := (.int ((own_upd (own_upd (own_upd f ((own_by bt) + (0 : Int32)) (nar .byte (((f ((own_by bt) + (0 : Int32))) ||| ((((((own_sh v bt bb)).toUInt64 >>> ((56 : Int32) &&& 0x3f).toInt64.toUInt64).toInt64)).toInt32).toInt8.toInt32)).toInt8.toInt32)) ((own_by bt) + (1 : Int32)) (nar .byte ((((own_upd f ((own_by bt) + (0 : Int32)) (nar .byte (((f ((own_by bt) + (0 : Int32))) ||| ((((((own_sh v bt bb)).toUInt64 >>> ((56 : Int32) &&& 0x3f).toInt64.toUInt64).toInt64)).toInt32).toInt8.toInt32)).toInt8.toInt32)) ((own_by bt) + (1 : Int32))) ||| ((((((own_sh v bt bb)).toUInt64 >>> ((48 : Int32) &&& 0x3f).toInt64.toUInt64).toInt64)).toInt32).toInt8.toInt32)).toInt8.toInt32)) ((own_by bt) + (2 : Int32)) (nar .byte ((((own_upd (own_upd f ((own_by bt) + (0 : Int32)) (nar .byte (((f ((own_by bt) + (0 : Int32))) ||| ((((((own_sh v bt bb)).toUInt64 >>> ((56 : Int32) &&& 0x3f).toInt64.toUInt64).toInt64)).toInt32).toInt8.toInt32)).toInt8.toInt32)) ((own_by bt) + (1 : Int32)) (nar .byte ((((own_upd f ((own_by bt) + (0 : Int32)) (nar .byte (((f ((own_by bt) + (0 : Int32))) ||| ((((((own_sh v bt bb)).toUInt64 >>> ((56 : Int32) &&& 0x3f).toInt64.toUInt64).toInt64)).toInt32).toInt8.toInt32)).toInt8.toInt32)) ((own_by bt) + (1 : Int32))) ||| ((((((own_sh v bt bb)).toUInt64 >>> ((48 : Int32) &&& 0x3f).toInt64.toUInt64).toInt64)).toInt32).toInt8.toInt32)).toInt8.toInt32)) ((own_by bt) + (2 : Int32))) ||| ((((((own_sh v bt bb)).toUInt64 >>> ((40 : Int32) &&& 0x3f).toInt64.toUInt64).toInt64)).toInt32).toInt8.toInt32)).toInt8.toInt32)) ((own_by bt) + (3 : Int32))))) (by rw [e18]; exact Ar20.1) (State.isArrayOf_alike hZ.alike Ar20.2.1) Ar20.2.2 hin20 hat20 (g := (mkF m 146 #[.val (.ref pk), .val (.ref ce), .val (.ref io), .val (.int off), .val (.int i), .val (.long v), .second, .val (.int q), .val (.long bt), .second, .val (.int (own_by bt)), .val (.int (own_ib bt)), .val (.long (own_sh v bt bb)), .second, .val (.int 3)] [(.int ((own_by bt) + (3 : Int32))), (.ref io), (.int ((own_by bt) + (3 : Int32))), (.ref io)])) rfl rfl (hb hby d6_146) t k) ?_
        refine Wp.back (U' := (T18.setTop (mkF m 162 #[.val (.ref pk), .val (.ref ce), .val (.ref io), .val (.int off), .val (.int i), .val (.long v), .second, .val (.int q), .val (.long bt), .second, .val (.int (own_by bt)), .val (.int (own_ib bt)), .val (.long (own_sh v bt bb)), .second, .val (.int 3)] [(.int ((((own_upd (own_upd (own_upd f ((own_by bt) + (0 : Int32)) (nar .byte (((f ((own_by bt) + (0 : Int32))) ||| ((((((own_sh v bt bb)).toUInt64 >>> ((56 : Int32) &&& 0x3f).toInt64.toUInt64).toInt64)).toInt32).toInt8.toInt32)).toInt8.toInt32)) ((own_by bt) + (1 : Int32)) (nar .byte ((((own_upd f ((own_by bt) + (0 : Int32)) (nar .byte (((f ((own_by bt) + (0 : Int32))) ||| ((((((own_sh v bt bb)).toUInt64 >>> ((56 : Int32) &&& 0x3f).toInt64.toUInt64).toInt64)).toInt32).toInt8.toInt32)).toInt8.toInt32)) ((own_by bt) + (1 : Int32))) ||| ((((((own_sh v bt bb)).toUInt64 >>> ((48 : Int32) &&& 0x3f).toInt64.toUInt64).toInt64)).toInt32).toInt8.toInt32)).toInt8.toInt32)) ((own_by bt) + (2 : Int32)) (nar .byte ((((own_upd (own_upd f ((own_by bt) + (0 : Int32)) (nar .byte (((f ((own_by bt) + (0 : Int32))) ||| ((((((own_sh v bt bb)).toUInt64 >>> ((56 : Int32) &&& 0x3f).toInt64.toUInt64).toInt64)).toInt32).toInt8.toInt32)).toInt8.toInt32)) ((own_by bt) + (1 : Int32)) (nar .byte ((((own_upd f ((own_by bt) + (0 : Int32)) (nar .byte (((f ((own_by bt) + (0 : Int32))) ||| ((((((own_sh v bt bb)).toUInt64 >>> ((56 : Int32) &&& 0x3f).toInt64.toUInt64).toInt64)).toInt32).toInt8.toInt32)).toInt8.toInt32)) ((own_by bt) + (1 : Int32))) ||| ((((((own_sh v bt bb)).toUInt64 >>> ((48 : Int32) &&& 0x3f).toInt64.toUInt64).toInt64)).toInt32).toInt8.toInt32)).toInt8.toInt32)) ((own_by bt) + (2 : Int32))) ||| ((((((own_sh v bt bb)).toUInt64 >>> ((40 : Int32) &&& 0x3f).toInt64.toUInt64).toInt64)).toInt32).toInt8.toInt32)).toInt8.toInt32)) ((own_by bt) + (3 : Int32))) ||| ((((((own_sh v bt bb)).toUInt64 >>> ((32 : Int32) &&& 0x3f).toInt64.toUInt64).toInt64)).toInt32).toInt8.toInt32)).toInt8.toInt32), (.int ((own_by bt) + (3 : Int32))), (.ref io)]))) (fun t k => XS.lload X18.here hx rfl (hb hby d6_147) rfl (XT.bipushV X18.here hx rfl 56 (hb hby d6_149) (by decide) (XT.bipushV X18.here hx rfl 8 (hb hby d6_151) (by decide) (XS.iload X18.here hx rfl (hb hby d6_153) rfl (XS.imul X18.here hx rfl (hb hby d6_155) rfl (XS.isub X18.here hx rfl (hb hby d6_156) rfl (XS.lushr X18.here hx rfl (hb hby d6_157) rfl (XS.l2i X18.here hx rfl (hb hby d6_158) rfl (XS.i2b X18.here hx rfl (hb hby d6_159) rfl (XS.ior X18.here hx rfl (hb hby d6_160) rfl (XS.i2b X18.here hx rfl (hb hby d6_161) rfl k))))))))))) ?_
        have vq21 := V16
        obtain ⟨cl21, Ar21, qa21, qs21, qn21, qh21, qg21⟩ := vq21
        have hin21 : ¬ (((own_by bt) + (3 : Int32)) < 0 ∨ cl21.slots.size ≤ (((own_by bt) + (3 : Int32))).toNatClampNeg) := inb_of qs21 (hB.2.2 (3 : Int32) (by decide) c136_19)
        obtain ⟨T21, h21, X21, e21, W21, st21⟩ := stB X18 hx hZ e18 Ar21 (j := ((own_by bt) + (3 : Int32))) hin21 (g := (mkF m 162 #[.val (.ref pk), .val (.ref ce), .val (.ref io), .val (.int off), .val (.int i), .val (.long v), .second, .val (.int q), .val (.long bt), .second, .val (.int (own_by bt)), .val (.int (own_ib bt)), .val (.long (own_sh v bt bb)), .second, .val (.int 3)] [(.int ((((own_upd (own_upd (own_upd f ((own_by bt) + (0 : Int32)) (nar .byte (((f ((own_by bt) + (0 : Int32))) ||| ((((((own_sh v bt bb)).toUInt64 >>> ((56 : Int32) &&& 0x3f).toInt64.toUInt64).toInt64)).toInt32).toInt8.toInt32)).toInt8.toInt32)) ((own_by bt) + (1 : Int32)) (nar .byte ((((own_upd f ((own_by bt) + (0 : Int32)) (nar .byte (((f ((own_by bt) + (0 : Int32))) ||| ((((((own_sh v bt bb)).toUInt64 >>> ((56 : Int32) &&& 0x3f).toInt64.toUInt64).toInt64)).toInt32).toInt8.toInt32)).toInt8.toInt32)) ((own_by bt) + (1 : Int32))) ||| ((((((own_sh v bt bb)).toUInt64 >>> ((48 : Int32) &&& 0x3f).toInt64.toUInt64).toInt64)).toInt32).toInt8.toInt32)).toInt8.toInt32)) ((own_by bt) + (2 : Int32)) (nar .byte ((((own_upd (own_upd f ((own_by bt) + (0 : Int32)) (nar .byte (((f ((own_by bt) + (0 : Int32))) ||| ((((((own_sh v bt bb)).toUInt64 >>> ((56 : Int32) &&& 0x3f).toInt64.toUInt64).toInt64)).toInt32).toInt8.toInt32)).toInt8.toInt32)) ((own_by bt) + (1 : Int32)) (nar .byte ((((own_upd f ((own_by bt) + (0 : Int32)) (nar .byte (((f ((own_by bt) + (0 : Int32))) ||| ((((((own_sh v bt bb)).toUInt64 >>> ((56 : Int32) &&& 0x3f).toInt64.toUInt64).toInt64)).toInt32).toInt8.toInt32)).toInt8.toInt32)) ((own_by bt) + (1 : Int32))) ||| ((((((own_sh v bt bb)).toUInt64 >>> ((48 : Int32) &&& 0x3f).toInt64.toUInt64).toInt64)).toInt32).toInt8.toInt32)).toInt8.toInt32)) ((own_by bt) + (2 : Int32))) ||| ((((((own_sh v bt bb)).toUInt64 >>> ((40 : Int32) &&& 0x3f).toInt64.toUInt64).toInt64)).toInt32).toInt8.toInt32)).toInt8.toInt32)) ((own_by bt) + (3 : Int32))) ||| ((((((own_sh v bt bb)).toUInt64 >>> ((32 : Int32) &&& 0x3f).toInt64.toUInt64).toInt64)).toInt32).toInt8.toInt32)).toInt8.toInt32), (.int ((own_by bt) + (3 : Int32))), (.ref io)])) rfl rfl (hb hby d6_162)
        have V21 : Arv Z h21 io ko .byte (9 : Int32) (own_L (own_upd (own_upd (own_upd (own_upd f ((own_by bt) + (0 : Int32)) (nar .byte (((f ((own_by bt) + (0 : Int32))) ||| ((((((own_sh v bt bb)).toUInt64 >>> ((56 : Int32) &&& 0x3f).toInt64.toUInt64).toInt64)).toInt32).toInt8.toInt32)).toInt8.toInt32)) ((own_by bt) + (1 : Int32)) (nar .byte ((((own_upd f ((own_by bt) + (0 : Int32)) (nar .byte (((f ((own_by bt) + (0 : Int32))) ||| ((((((own_sh v bt bb)).toUInt64 >>> ((56 : Int32) &&& 0x3f).toInt64.toUInt64).toInt64)).toInt32).toInt8.toInt32)).toInt8.toInt32)) ((own_by bt) + (1 : Int32))) ||| ((((((own_sh v bt bb)).toUInt64 >>> ((48 : Int32) &&& 0x3f).toInt64.toUInt64).toInt64)).toInt32).toInt8.toInt32)).toInt8.toInt32)) ((own_by bt) + (2 : Int32)) (nar .byte ((((own_upd (own_upd f ((own_by bt) + (0 : Int32)) (nar .byte (((f ((own_by bt) + (0 : Int32))) ||| ((((((own_sh v bt bb)).toUInt64 >>> ((56 : Int32) &&& 0x3f).toInt64.toUInt64).toInt64)).toInt32).toInt8.toInt32)).toInt8.toInt32)) ((own_by bt) + (1 : Int32)) (nar .byte ((((own_upd f ((own_by bt) + (0 : Int32)) (nar .byte (((f ((own_by bt) + (0 : Int32))) ||| ((((((own_sh v bt bb)).toUInt64 >>> ((56 : Int32) &&& 0x3f).toInt64.toUInt64).toInt64)).toInt32).toInt8.toInt32)).toInt8.toInt32)) ((own_by bt) + (1 : Int32))) ||| ((((((own_sh v bt bb)).toUInt64 >>> ((48 : Int32) &&& 0x3f).toInt64.toUInt64).toInt64)).toInt32).toInt8.toInt32)).toInt8.toInt32)) ((own_by bt) + (2 : Int32))) ||| ((((((own_sh v bt bb)).toUInt64 >>> ((40 : Int32) &&& 0x3f).toInt64.toUInt64).toInt64)).toInt32).toInt8.toInt32)).toInt8.toInt32)) ((own_by bt) + (3 : Int32)) (nar .byte ((((own_upd (own_upd (own_upd f ((own_by bt) + (0 : Int32)) (nar .byte (((f ((own_by bt) + (0 : Int32))) ||| ((((((own_sh v bt bb)).toUInt64 >>> ((56 : Int32) &&& 0x3f).toInt64.toUInt64).toInt64)).toInt32).toInt8.toInt32)).toInt8.toInt32)) ((own_by bt) + (1 : Int32)) (nar .byte ((((own_upd f ((own_by bt) + (0 : Int32)) (nar .byte (((f ((own_by bt) + (0 : Int32))) ||| ((((((own_sh v bt bb)).toUInt64 >>> ((56 : Int32) &&& 0x3f).toInt64.toUInt64).toInt64)).toInt32).toInt8.toInt32)).toInt8.toInt32)) ((own_by bt) + (1 : Int32))) ||| ((((((own_sh v bt bb)).toUInt64 >>> ((48 : Int32) &&& 0x3f).toInt64.toUInt64).toInt64)).toInt32).toInt8.toInt32)).toInt8.toInt32)) ((own_by bt) + (2 : Int32)) (nar .byte ((((own_upd (own_upd f ((own_by bt) + (0 : Int32)) (nar .byte (((f ((own_by bt) + (0 : Int32))) ||| ((((((own_sh v bt bb)).toUInt64 >>> ((56 : Int32) &&& 0x3f).toInt64.toUInt64).toInt64)).toInt32).toInt8.toInt32)).toInt8.toInt32)) ((own_by bt) + (1 : Int32)) (nar .byte ((((own_upd f ((own_by bt) + (0 : Int32)) (nar .byte (((f ((own_by bt) + (0 : Int32))) ||| ((((((own_sh v bt bb)).toUInt64 >>> ((56 : Int32) &&& 0x3f).toInt64.toUInt64).toInt64)).toInt32).toInt8.toInt32)).toInt8.toInt32)) ((own_by bt) + (1 : Int32))) ||| ((((((own_sh v bt bb)).toUInt64 >>> ((48 : Int32) &&& 0x3f).toInt64.toUInt64).toInt64)).toInt32).toInt8.toInt32)).toInt8.toInt32)) ((own_by bt) + (2 : Int32))) ||| ((((((own_sh v bt bb)).toUInt64 >>> ((40 : Int32) &&& 0x3f).toInt64.toUInt64).toInt64)).toInt32).toInt8.toInt32)).toInt8.toInt32)) ((own_by bt) + (3 : Int32))) ||| ((((((own_sh v bt bb)).toUInt64 >>> ((32 : Int32) &&& 0x3f).toInt64.toUInt64).toInt64)).toInt32).toInt8.toInt32)).toInt8.toInt32))) (.int 0) := own_setL Ar21 qa21 qs21 qn21 qh21 qg21 (fits_nar_byte _) W21 (hB.2.2 (3 : Int32) (by decide) c136_19)
        have f22_0 := Nat.le_trans f17_0 (Keep.of_wr W21).1
        have f22_1 := f17_1.other W21 (Or.inl hpi)
        have f22_2 := f17_2.other W21 (Or.inl hpi)
        have f22_3 := f17_3.wr W21 (Or.inl (List.mem_of_getElem? (i := 0) rfl))
        have N21 := Fr.snoc X21 N16 gio
        refine Wp.back (U' := (T21.setTop (mkF m 163 #[.val (.ref pk), .val (.ref ce), .val (.ref io), .val (.int off), .val (.int i), .val (.long v), .second, .val (.int q), .val (.long bt), .second, .val (.int (own_by bt)), .val (.int (own_ib bt)), .val (.long (own_sh v bt bb)), .second, .val (.int 3)] []))) st21 ?_
        refine Wp.back (U' := (T21.setTop (mkF m 126 #[.val (.ref pk), .val (.ref ce), .val (.ref io), .val (.int off), .val (.int i), .val (.long v), .second, .val (.int q), .val (.long bt), .second, .val (.int (own_by bt)), .val (.int (own_ib bt)), .val (.long (own_sh v bt bb)), .second, .val (.int 4)] [(.ref pk), (.int (own_ib bt)), (.int 4)]))) (fun t k => XT.iincV X21.here hx rfl 1 (hb hby d6_163) (by decide) rfl (l' := #[.val (.ref pk), .val (.ref ce), .val (.ref io), .val (.int off), .val (.int i), .val (.long v), .second, .val (.int q), .val (.long bt), .second, .val (.int (own_by bt)), .val (.int (own_ib bt)), .val (.long (own_sh v bt bb)), .second, .val (.int 4)]) rfl (XS.goto X21.here hx rfl (pc0 := 166) (pc' := 121) rfl (hb hby d6_166) (by decide) (by decide) (XS.iload X21.here hx rfl (hb hby d6_121) rfl (XS.iload X21.here hx rfl (hb hby d6_123) rfl (XS.aloadN X21.here hx rfl (hb hby d6_125) rfl rfl k))))) ?_
        obtain ⟨T23, X23, e23, st23⟩ := getF X21 hx hZ hown (host := "") (Or.inl (ow hw 30 rfl)) Via.refl e21 f22_2 (g := (mkF m 126 #[.val (.ref pk), .val (.ref ce), .val (.ref io), .val (.int off), .val (.int i), .val (.long v), .second, .val (.int q), .val (.long bt), .second, .val (.int (own_by bt)), .val (.int (own_ib bt)), .val (.long (own_sh v bt bb)), .second, .val (.int 4)] [(.ref pk), (.int (own_ib bt)), (.int 4)])) rfl rfl (hb hby d6_126)
        refine Wp.back (U' := (T23.setTop (mkF m 129 #[.val (.ref pk), .val (.ref ce), .val (.ref io), .val (.int off), .val (.int i), .val (.long v), .second, .val (.int q), .val (.long bt), .second, .val (.int (own_by bt)), .val (.int (own_ib bt)), .val (.long (own_sh v bt bb)), .second, .val (.int 4)] [(.int bb), (.int (own_ib bt)), (.int 4)]))) st23 ?_
        refine Wp.back (U' := (T23.setTop (mkF m 136 #[.val (.ref pk), .val (.ref ce), .val (.ref io), .val (.int off), .val (.int i), .val (.long v), .second, .val (.int q), .val (.long bt), .second, .val (.int (own_by bt)), .val (.int (own_ib bt)), .val (.long (own_sh v bt bb)), .second, .val (.int 4)] [(.int ((((own_ib bt) + bb) + (7 : Int32)) / (8 : Int32))), (.int 4)]))) (fun t k => XS.iadd X23.here hx rfl (hb hby d6_129) rfl (XT.bipushV X23.here hx rfl 7 (hb hby d6_130) (by decide) (XS.iadd X23.here hx rfl (hb hby d6_132) rfl (XT.bipushV X23.here hx rfl 8 (hb hby d6_133) (by decide) (XS.idiv X23.here hx rfl (hb hby d6_135) rfl (by decide) k))))) ?_
        show Wp p e below _ (T23.setTop (mkF m 136 #[.val (.ref pk), .val (.ref ce), .val (.ref io), .val (.int off), .val (.int i), .val (.long v), .second, .val (.int q), .val (.long bt), .second, .val (.int (own_by bt)), .val (.int (own_ib bt)), .val (.long (own_sh v bt bb)), .second, .val (.int 4)] [(.int (own_ct bt bb)), (.int 4)]))
        refine Wp.back (U' := (T23.setTop (mkF m 169 #[.val (.ref pk), .val (.ref ce), .val (.ref io), .val (.int off), .val (.int i), .val (.long v), .second, .val (.int q), .val (.long bt), .second, .val (.int (own_by bt)), .val (.int (own_ib bt)), .val (.long (own_sh v bt bb)), .second, .val (.int 4)] []))) (fun t k => XS.icmpYes X23.here hx rfl (pc0 := 136) (pc' := 169) rfl (hb hby d6_136) rfl (flt hB.2.1).2.1 (by decide) (by decide) k) ?_
        exact k T23 h21 _ (4 : Int32) X23 e23 N21 f22_3 (by rw [own_turn, if_pos c136_9, if_pos c136_14, if_pos c136_19]; exact V21)
      · refine Wp.back (U' := (T18.setTop (mkF m 169 #[.val (.ref pk), .val (.ref ce), .val (.ref io), .val (.int off), .val (.int i), .val (.long v), .second, .val (.int q), .val (.long bt), .second, .val (.int (own_by bt)), .val (.int (own_ib bt)), .val (.long (own_sh v bt bb)), .second, .val (.int 3)] []))) (fun t k => XS.icmpYes X18.here hx rfl (pc0 := 136) (pc' := 169) rfl (hb hby d6_136) rfl (flt c136_19).2.1 (by decide) (by decide) k) ?_
        exact k T18 h16 _ (3 : Int32) X18 e18 N16 f17_3 (by rw [own_turn, if_pos c136_9, if_pos c136_14, if_neg c136_19]; exact V16)
    · refine Wp.back (U' := (T13.setTop (mkF m 169 #[.val (.ref pk), .val (.ref ce), .val (.ref io), .val (.int off), .val (.int i), .val (.long v), .second, .val (.int q), .val (.long bt), .second, .val (.int (own_by bt)), .val (.int (own_ib bt)), .val (.long (own_sh v bt bb)), .second, .val (.int 2)] []))) (fun t k => XS.icmpYes X13.here hx rfl (pc0 := 136) (pc' := 169) rfl (hb hby d6_136) rfl (flt c136_14).2.1 (by decide) (by decide) k) ?_
      exact k T13 h11 _ (2 : Int32) X13 e13 N11 f12_3 (by rw [own_turn, if_pos c136_9, if_neg c136_14]; exact V11)
  · refine Wp.back (U' := (T8.setTop (mkF m 169 #[.val (.ref pk), .val (.ref ce), .val (.ref io), .val (.int off), .val (.int i), .val (.long v), .second, .val (.int q), .val (.long bt), .second, .val (.int (own_by bt)), .val (.int (own_ib bt)), .val (.long (own_sh v bt bb)), .second, .val (.int 1)] []))) (fun t k => XS.icmpYes X8.here hx rfl (pc0 := 136) (pc' := 169) rfl (hb hby d6_136) rfl (flt c136_9).2.1 (by decide) (by decide) k) ?_
    exact k T8 h6 _ (1 : Int32) X8 e8 N6 f7_3 (by rw [own_turn, if_neg c136_9]; exact V6)
def Q_wr0 (Z : State) (pk : Addr) (ce : Addr) (io : Addr) (off : Int32) (pw : Addr) (kc : ClassId) (kp : ClassId) (ko : ClassId) (g : Int32) (n : Int32) (md : Int32) (bb : Int32) (f : Int32 → Int32) (fo : Int32 → Int32) (h0 : Heap) (n0 : Nat) (v : Option Value) (h : Heap) (L : List Loc) : Prop := v = none ∧ Fr n0 L ∧ Keep h0 h [io] ∧ Arv Z h io ko .byte (9 : Int32) (own_L fo) (.int 0)
theorem d6_0 : decode prog_4_method_7_code 0 = .ok (.iconst 0, 1) := by decide +kernel
theorem d6_1 : decode prog_4_method_7_code 1 = .ok (.istore 4, 2) := by decide +kernel
theorem d6_3 : decode prog_4_method_7_code 3 = .ok (.iload 4, 2) := by decide +kernel
theorem d6_5 : decode prog_4_method_7_code 5 = .ok (.aload_n 1, 1) := by decide +kernel
theorem d6_6 : decode prog_4_method_7_code 6 = .ok (.arraylength, 1) := by decide +kernel
theorem d6_7 : decode prog_4_method_7_code 7 = .ok (.if_icmp .ge 174, 3) := by decide +kernel
theorem d6_181 : decode prog_4_method_7_code 181 = .ok (.return_, 1) := by decide +kernel
theorem pn6 : plainName "com/example/known_leaks/knownleaks/CellPacking" = true := by first | (simp [plainName, overriddenIn]; done) | decide +kernel
theorem ef6_RRRI (m : MethodId) (x0 : Addr) (x1 : Addr) (x2 : Addr) (x3 : Int32) : entryFrame m #[(.ref x0), (.ref x1), (.ref x2), (.int x3)] 15 = mkF m 0 #[.val (.ref x0), .val (.ref x1), .val (.ref x2), .val (.int x3), .unset, .unset, .unset, .unset, .unset, .unset, .unset, .unset, .unset, .unset, .unset] [] := by first | (simp [entryFrame, mkF, argsToLocals, Value.category]; done) | rfl
set_option maxRecDepth 65536 in
set_option maxHeartbeats 40000000 in
theorem rm_wr0 (l : Launch) (Z : State) (a0 : Array Value) (hw : ∀ d ∈ tables_1, d.before a0 Z = true) (ws : List Jvm.Cond) (pk : Addr) (ce : Addr) (io : Addr) (off : Int32) (pw : Addr) (kc : ClassId) (kp : ClassId) (ko : ClassId) (g : Int32) (n : Int32) (md : Int32) (bb : Int32) (f : Int32 → Int32) (fo : Int32 → Int32) (h0 : Heap) (n0 : Nat) (Z0 : n0 ≤ h0.size) (H0 : Fld Z h0 pk "com/example/known_leaks/knownleaks/CellPacking" "powers" "[J" (.ref pw)) (H1 : Fld Z h0 pk "com/example/known_leaks/knownleaks/CellPacking" "cellsPerBlock" "I" (.int g)) (H2 : Fld Z h0 pk "com/example/known_leaks/knownleaks/CellPacking" "blockBits" "I" (.int bb)) (H3 : Arv Z h0 ce kc .int n (own_C f) (.int 0)) (H4 : Arv Z h0 pw kp .long g (own_P md) (.long (0 : Int64))) (H5 : Arv Z h0 io ko .byte (9 : Int32) (own_L fo) (.int 0)) (g_io : n0 ≤ io) (ne_pk_io : pk ≠ io) (ne_ce_io : ce ≠ io) (ne_pw_io : pw ≠ io) (hg0 : g ≠ 0) (hl0 : ¬ (0 : Int32) < n) :
    Met l Z Y5 prog_4_method_7_code 15 none ws ({ frames := 1, cells := 0, slots := 0, locals := 15 } : Room) #[(.ref pk), (.ref ce), (.ref io), (.int off)] h0 (Q_wr0 Z pk ce io off pw kc kp ko g n md bb f fo h0 n0) := by
  refine own_body (plainFor_of_name pn6) ?_
  intro p e s m below meth c s₁ hx hby hret hlk hml hZ hown hnm X0 e0
  have N0 := Fr.nil n0
  refine Wp.back (U' := (s₁.setTop (mkF m 0 #[.val (.ref pk), .val (.ref ce), .val (.ref io), .val (.int off), .unset, .unset, .unset, .unset, .unset, .unset, .unset, .unset, .unset, .unset, .unset] []))) (fun t k => castTop (ef6_RRRI m pk ce io off) k) ?_
  refine Wp.back (U' := (s₁.setTop (mkF m 6 #[.val (.ref pk), .val (.ref ce), .val (.ref io), .val (.int off), .val (.int 0), .unset, .unset, .unset, .unset, .unset, .unset, .unset, .unset, .unset, .unset] [(.ref ce), (.int 0)]))) (fun t k => XT.iconstV X0.here hx rfl 0 (hb hby d6_0) (by decide) (XS.istore X0.here hx rfl (hb hby d6_1) rfl (l' := #[.val (.ref pk), .val (.ref ce), .val (.ref io), .val (.int off), .val (.int 0), .unset, .unset, .unset, .unset, .unset, .unset, .unset, .unset, .unset, .unset]) rfl (XS.iload X0.here hx rfl (hb hby d6_3) rfl (XS.aloadN X0.here hx rfl (hb hby d6_5) rfl rfl k)))) ?_
  have vq1 := H3
  obtain ⟨cl1, Ar1, -, qs1, qn1, -, -⟩ := vq1
  refine Wp.back (U' := (s₁.setTop (mkF m 7 #[.val (.ref pk), .val (.ref ce), .val (.ref io), .val (.int off), .val (.int 0), .unset, .unset, .unset, .unset, .unset, .unset, .unset, .unset, .unset, .unset] [(.int n), (.int 0)]))) (fun t k => X0.arraylength hx (by rw [e0]; exact Ar1.1) (State.isArrayOf_alike hZ.alike Ar1.2.1) (g := (mkF m 6 #[.val (.ref pk), .val (.ref ce), .val (.ref io), .val (.int off), .val (.int 0), .unset, .unset, .unset, .unset, .unset, .unset, .unset, .unset, .unset, .unset] [(.ref ce), (.int 0)])) rfl rfl (hb hby d6_6) t (by rw [len_of qs1 qn1]; exact k)) ?_
  refine Wp.back (U' := (s₁.setTop (mkF m 181 #[.val (.ref pk), .val (.ref ce), .val (.ref io), .val (.int off), .val (.int 0), .unset, .unset, .unset, .unset, .unset, .unset, .unset, .unset, .unset, .unset] []))) (fun t k => XS.icmpYes X0.here hx rfl (pc0 := 7) (pc' := 181) rfl (hb hby d6_7) rfl (flt hl0).2.1 (by decide) (by decide) k) ?_
  obtain ⟨fs, hr, hrun, hended, hW, hsame⟩ := X0.leave (v := none) (fun _ => rfl)
  refine Wp.done (X0.returnOut hx hret (hb hby d6_181) hr) hrun hended ⟨_, _, rfl, ?_, ⟨_, rfl⟩, hW, hsame.mono (by decide) (by decide)⟩
  show Q_wr0 Z pk ce io off pw kc kp ko g n md bb f fo h0 n0 _ s₁.heap _
  rw [e0]
  exact ⟨rfl, N0, (Keep.refl h0 [io]), H5⟩
def Q_wr1 (Z : State) (pk : Addr) (ce : Addr) (io : Addr) (off : Int32) (pw : Addr) (kc : ClassId) (kp : ClassId) (ko : ClassId) (g : Int32) (n : Int32) (md : Int32) (bb : Int32) (f : Int32 → Int32) (fo : Int32 → Int32) (h0 : Heap) (n0 : Nat) (v : Option Value) (h : Heap) (L : List Loc) : Prop := v = none ∧ Fr n0 L ∧ Keep h0 h [io] ∧ Arv Z h io ko .byte (9 : Int32) (own_L (own_turn fo (own_sum f md (0 : Int32) (f_min g (n - (0 : Int32)))) (own_BT off bb (((0 : Int32) / g)).toInt64) bb)) (.int 0)
theorem d6_171 : decode prog_4_method_7_code 171 = .ok (.aload_n 0, 1) := by decide +kernel
theorem d6_172 : decode prog_4_method_7_code 172 = .ok (.getfield 32, 3) := by decide +kernel
theorem d6_175 : decode prog_4_method_7_code 175 = .ok (.iadd, 1) := by decide +kernel
theorem d6_176 : decode prog_4_method_7_code 176 = .ok (.istore 4, 2) := by decide +kernel
theorem d6_178 : decode prog_4_method_7_code 178 = .ok (.goto (-175), 3) := by decide +kernel
set_option maxRecDepth 65536 in
set_option maxHeartbeats 40000000 in
theorem rm_wr1 (l : Launch) (Z : State) (a0 : Array Value) (hw : ∀ d ∈ tables_1, d.before a0 Z = true) (ws : List Jvm.Cond) (pk : Addr) (ce : Addr) (io : Addr) (off : Int32) (pw : Addr) (kc : ClassId) (kp : ClassId) (ko : ClassId) (g : Int32) (n : Int32) (md : Int32) (bb : Int32) (f : Int32 → Int32) (fo : Int32 → Int32) (h0 : Heap) (n0 : Nat) (Z0 : n0 ≤ h0.size) (H0 : Fld Z h0 pk "com/example/known_leaks/knownleaks/CellPacking" "powers" "[J" (.ref pw)) (H1 : Fld Z h0 pk "com/example/known_leaks/knownleaks/CellPacking" "cellsPerBlock" "I" (.int g)) (H2 : Fld Z h0 pk "com/example/known_leaks/knownleaks/CellPacking" "blockBits" "I" (.int bb)) (H3 : Arv Z h0 ce kc .int n (own_C f) (.int 0)) (H4 : Arv Z h0 pw kp .long g (own_P md) (.long (0 : Int64))) (H5 : Arv Z h0 io ko .byte (9 : Int32) (own_L fo) (.int 0)) (g_io : n0 ≤ io) (ne_pk_io : pk ≠ io) (ne_ce_io : ce ≠ io) (ne_pw_io : pw ≠ io) (hg0 : g ≠ 0) (hl0 : (0 : Int32) < n) (hl1 : ¬ ((0 : Int32) + g) < n) (hRA0 : own_RA g n (0 : Int32)) (hRB0 : own_RB (own_BT off bb (((0 : Int32) / g)).toInt64) bb) :
    Met l Z Y5 prog_4_method_7_code 15 none ws ({ frames := 1, cells := 0, slots := 0, locals := 15 } : Room) #[(.ref pk), (.ref ce), (.ref io), (.int off)] h0 (Q_wr1 Z pk ce io off pw kc kp ko g n md bb f fo h0 n0) := by
  refine own_body (plainFor_of_name pn6) ?_
  intro p e s m below meth c s₁ hx hby hret hlk hml hZ hown hnm X0 e0
  have N0 := Fr.nil n0
  refine Wp.back (U' := (s₁.setTop (mkF m 0 #[.val (.ref pk), .val (.ref ce), .val (.ref io), .val (.int off), .unset, .unset, .unset, .unset, .unset, .unset, .unset, .unset, .unset, .unset, .unset] []))) (fun t k => castTop (ef6_RRRI m pk ce io off) k) ?_
  refine Wp.back (U' := (s₁.setTop (mkF m 6 #[.val (.ref pk), .val (.ref ce), .val (.ref io), .val (.int off), .val (.int 0), .unset, .unset, .unset, .unset, .unset, .unset, .unset, .unset, .unset, .unset] [(.ref ce), (.int 0)]))) (fun t k => XT.iconstV X0.here hx rfl 0 (hb hby d6_0) (by decide) (XS.istore X0.here hx rfl (hb hby d6_1) rfl (l' := #[.val (.ref pk), .val (.ref ce), .val (.ref io), .val (.int off), .val (.int 0), .unset, .unset, .unset, .unset, .unset, .unset, .unset, .unset, .unset, .unset]) rfl (XS.iload X0.here hx rfl (hb hby d6_3) rfl (XS.aloadN X0.here hx rfl (hb hby d6_5) rfl rfl k)))) ?_
  have vq1 := H3
  obtain ⟨cl1, Ar1, -, qs1, qn1, -, -⟩ := vq1
  refine Wp.back (U' := (s₁.setTop (mkF m 7 #[.val (.ref pk), .val (.ref ce), .val (.ref io), .val (.int off), .val (.int 0), .unset, .unset, .unset, .unset, .unset, .unset, .unset, .unset, .unset, .unset] [(.int n), (.int 0)]))) (fun t k => X0.arraylength hx (by rw [e0]; exact Ar1.1) (State.isArrayOf_alike hZ.alike Ar1.2.1) (g := (mkF m 6 #[.val (.ref pk), .val (.ref ce), .val (.ref io), .val (.int off), .val (.int 0), .unset, .unset, .unset, .unset, .unset, .unset, .unset, .unset, .unset, .unset] [(.ref ce), (.int 0)])) rfl rfl (hb hby d6_6) t (by rw [len_of qs1 qn1]; exact k)) ?_
  refine Wp.back (U' := (s₁.setTop (mkF m 10 #[.val (.ref pk), .val (.ref ce), .val (.ref io), .val (.int off), .val (.int 0), .unset, .unset, .unset, .unset, .unset, .unset, .unset, .unset, .unset, .unset] []))) (fun t k => XS.icmpNo X0.here hx rfl (hb hby d6_7) rfl (tlt hl0).2.1 k) ?_
  refine own_pA0 pk ce io pw kc kp f off (0 : Int32) g n md hx hw hby hml hZ hown X0 e0 N0 Z0 H1 H0 H3 H4 hRA0 (fun T2 h2 L2 y2 X2 e2 N2 K2 => ?_)
  have f3_0 := Nat.le_trans Z0 K2.1
  have f3_1 := H0.keep K2 nin0
  have f3_2 := H1.keep K2 nin0
  have f3_3 := H2.keep K2 nin0
  have f3_4 := H3.keep K2 nin0
  have f3_5 := H4.keep K2 nin0
  have f3_6 := H5.keep K2 nin0
  have f3_7 := (Keep.refl h0 [io]).trans K2 all0
  refine own_pC0 pk ce io ko fo off (0 : Int32) g bb (f_min g (n - (0 : Int32))) y2 (own_sum f md (0 : Int32) (f_min g (n - (0 : Int32)))) (own_BT off bb (((0 : Int32) / g)).toInt64) hx hw hby hml hZ hown X2 e2 N2 f3_0 f3_2 f3_3 f3_6 g_io ne_pk_io hg0 rfl hRB0 (fun T4 h4 L4 y4 X4 e4 N4 K4 V4 => ?_)
  have f5_0 := Nat.le_trans f3_0 K4.1
  have f5_1 := f3_1.keep K4 (ninS ne_pk_io nin0)
  have f5_2 := f3_2.keep K4 (ninS ne_pk_io nin0)
  have f5_3 := f3_3.keep K4 (ninS ne_pk_io nin0)
  have f5_4 := f3_4.keep K4 (ninS ne_ce_io nin0)
  have f5_5 := f3_5.keep K4 (ninS ne_pw_io nin0)
  have f5_7 := f3_7.trans K4 (allS (Or.inl (List.mem_of_getElem? (i := 0) rfl)) all0)
  refine Wp.back (U' := (T4.setTop (mkF m 172 #[.val (.ref pk), .val (.ref ce), .val (.ref io), .val (.int off), .val (.int 0), .val (.long (own_sum f md (0 : Int32) (f_min g (n - (0 : Int32))))), .second, .val (.int (f_min g (n - (0 : Int32)))), .val (.long (own_BT off bb (((0 : Int32) / g)).toInt64)), .second, .val (.int (own_by (own_BT off bb (((0 : Int32) / g)).toInt64))), .val (.int (own_ib (own_BT off bb (((0 : Int32) / g)).toInt64))), .val (.long (own_sh (own_sum f md (0 : Int32) (f_min g (n - (0 : Int32)))) (own_BT off bb (((0 : Int32) / g)).toInt64) bb)), .second, .val (.int y4)] [(.ref pk), (.int 0)]))) (fun t k => XS.iload X4.here hx rfl (hb hby d6_169) rfl (XS.aloadN X4.here hx rfl (hb hby d6_171) rfl rfl k)) ?_
  obtain ⟨T6, X6, e6, st6⟩ := getF X4 hx hZ hown (host := "") (Or.inl (ow hw 19 rfl)) Via.refl e4 f5_2 (g := (mkF m 172 #[.val (.ref pk), .val (.ref ce), .val (.ref io), .val (.int off), .val (.int 0), .val (.long (own_sum f md (0 : Int32) (f_min g (n - (0 : Int32))))), .second, .val (.int (f_min g (n - (0 : Int32)))), .val (.long (own_BT off bb (((0 : Int32) / g)).toInt64)), .second, .val (.int (own_by (own_BT off bb (((0 : Int32) / g)).toInt64))), .val (.int (own_ib (own_BT off bb (((0 : Int32) / g)).toInt64))), .val (.long (own_sh (own_sum f md (0 : Int32) (f_min g (n - (0 : Int32)))) (own_BT off bb (((0 : Int32) / g)).toInt64) bb)), .second, .val (.int y4)] [(.ref pk), (.int 0)])) rfl rfl (hb hby d6_172)
  refine Wp.back (U' := (T6.setTop (mkF m 175 #[.val (.ref pk), .val (.ref ce), .val (.ref io), .val (.int off), .val (.int 0), .val (.long (own_sum f md (0 : Int32) (f_min g (n - (0 : Int32))))), .second, .val (.int (f_min g (n - (0 : Int32)))), .val (.long (own_BT off bb (((0 : Int32) / g)).toInt64)), .second, .val (.int (own_by (own_BT off bb (((0 : Int32) / g)).toInt64))), .val (.int (own_ib (own_BT off bb (((0 : Int32) / g)).toInt64))), .val (.long (own_sh (own_sum f md (0 : Int32) (f_min g (n - (0 : Int32)))) (own_BT off bb (((0 : Int32) / g)).toInt64) bb)), .second, .val (.int y4)] [(.int g), (.int 0)]))) st6 ?_
  refine Wp.back (U' := (T6.setTop (mkF m 6 #[.val (.ref pk), .val (.ref ce), .val (.ref io), .val (.int off), .val (.int ((0 : Int32) + g)), .val (.long (own_sum f md (0 : Int32) (f_min g (n - (0 : Int32))))), .second, .val (.int (f_min g (n - (0 : Int32)))), .val (.long (own_BT off bb (((0 : Int32) / g)).toInt64)), .second, .val (.int (own_by (own_BT off bb (((0 : Int32) / g)).toInt64))), .val (.int (own_ib (own_BT off bb (((0 : Int32) / g)).toInt64))), .val (.long (own_sh (own_sum f md (0 : Int32) (f_min g (n - (0 : Int32)))) (own_BT off bb (((0 : Int32) / g)).toInt64) bb)), .second, .val (.int y4)] [(.ref ce), (.int ((0 : Int32) + g))]))) (fun t k => XS.iadd X6.here hx rfl (hb hby d6_175) rfl (XS.istore X6.here hx rfl (hb hby d6_176) rfl (l' := #[.val (.ref pk), .val (.ref ce), .val (.ref io), .val (.int off), .val (.int ((0 : Int32) + g)), .val (.long (own_sum f md (0 : Int32) (f_min g (n - (0 : Int32))))), .second, .val (.int (f_min g (n - (0 : Int32)))), .val (.long (own_BT off bb (((0 : Int32) / g)).toInt64)), .second, .val (.int (own_by (own_BT off bb (((0 : Int32) / g)).toInt64))), .val (.int (own_ib (own_BT off bb (((0 : Int32) / g)).toInt64))), .val (.long (own_sh (own_sum f md (0 : Int32) (f_min g (n - (0 : Int32)))) (own_BT off bb (((0 : Int32) / g)).toInt64) bb)), .second, .val (.int y4)]) rfl (XS.goto X6.here hx rfl (pc0 := 178) (pc' := 3) rfl (hb hby d6_178) (by decide) (by decide) (XS.iload X6.here hx rfl (hb hby d6_3) rfl (XS.aloadN X6.here hx rfl (hb hby d6_5) rfl rfl k))))) ?_
  have vq7 := f5_4
  obtain ⟨cl7, Ar7, -, qs7, qn7, -, -⟩ := vq7
  refine Wp.back (U' := (T6.setTop (mkF m 7 #[.val (.ref pk), .val (.ref ce), .val (.ref io), .val (.int off), .val (.int ((0 : Int32) + g)), .val (.long (own_sum f md (0 : Int32) (f_min g (n - (0 : Int32))))), .second, .val (.int (f_min g (n - (0 : Int32)))), .val (.long (own_BT off bb (((0 : Int32) / g)).toInt64)), .second, .val (.int (own_by (own_BT off bb (((0 : Int32) / g)).toInt64))), .val (.int (own_ib (own_BT off bb (((0 : Int32) / g)).toInt64))), .val (.long (own_sh (own_sum f md (0 : Int32) (f_min g (n - (0 : Int32)))) (own_BT off bb (((0 : Int32) / g)).toInt64) bb)), .second, .val (.int y4)] [(.int n), (.int ((0 : Int32) + g))]))) (fun t k => X6.arraylength hx (by rw [e6]; exact Ar7.1) (State.isArrayOf_alike hZ.alike Ar7.2.1) (g := (mkF m 6 #[.val (.ref pk), .val (.ref ce), .val (.ref io), .val (.int off), .val (.int ((0 : Int32) + g)), .val (.long (own_sum f md (0 : Int32) (f_min g (n - (0 : Int32))))), .second, .val (.int (f_min g (n - (0 : Int32)))), .val (.long (own_BT off bb (((0 : Int32) / g)).toInt64)), .second, .val (.int (own_by (own_BT off bb (((0 : Int32) / g)).toInt64))), .val (.int (own_ib (own_BT off bb (((0 : Int32) / g)).toInt64))), .val (.long (own_sh (own_sum f md (0 : Int32) (f_min g (n - (0 : Int32)))) (own_BT off bb (((0 : Int32) / g)).toInt64) bb)), .second, .val (.int y4)] [(.ref ce), (.int ((0 : Int32) + g))])) rfl rfl (hb hby d6_6) t (by rw [len_of qs7 qn7]; exact k)) ?_
  refine Wp.back (U' := (T6.setTop (mkF m 181 #[.val (.ref pk), .val (.ref ce), .val (.ref io), .val (.int off), .val (.int ((0 : Int32) + g)), .val (.long (own_sum f md (0 : Int32) (f_min g (n - (0 : Int32))))), .second, .val (.int (f_min g (n - (0 : Int32)))), .val (.long (own_BT off bb (((0 : Int32) / g)).toInt64)), .second, .val (.int (own_by (own_BT off bb (((0 : Int32) / g)).toInt64))), .val (.int (own_ib (own_BT off bb (((0 : Int32) / g)).toInt64))), .val (.long (own_sh (own_sum f md (0 : Int32) (f_min g (n - (0 : Int32)))) (own_BT off bb (((0 : Int32) / g)).toInt64) bb)), .second, .val (.int y4)] []))) (fun t k => XS.icmpYes X6.here hx rfl (pc0 := 7) (pc' := 181) rfl (hb hby d6_7) rfl (flt hl1).2.1 (by decide) (by decide) k) ?_
  obtain ⟨fs, hr, hrun, hended, hW, hsame⟩ := X6.leave (v := none) (fun _ => rfl)
  refine Wp.done (X6.returnOut hx hret (hb hby d6_181) hr) hrun hended ⟨_, _, rfl, ?_, ⟨_, rfl⟩, hW, hsame.mono (by decide) (by decide)⟩
  show Q_wr1 Z pk ce io off pw kc kp ko g n md bb f fo h0 n0 _ T6.heap _
  rw [e6]
  exact ⟨rfl, N4, f5_7, V4⟩
def Q_wr2 (Z : State) (pk : Addr) (ce : Addr) (io : Addr) (off : Int32) (pw : Addr) (kc : ClassId) (kp : ClassId) (ko : ClassId) (g : Int32) (n : Int32) (md : Int32) (bb : Int32) (f : Int32 → Int32) (fo : Int32 → Int32) (h0 : Heap) (n0 : Nat) (v : Option Value) (h : Heap) (L : List Loc) : Prop := v = none ∧ Fr n0 L ∧ Keep h0 h [io] ∧ Arv Z h io ko .byte (9 : Int32) (own_L (own_turn (own_turn fo (own_sum f md (0 : Int32) (f_min g (n - (0 : Int32)))) (own_BT off bb (((0 : Int32) / g)).toInt64) bb) (own_sum f md ((0 : Int32) + g) (f_min g (n - ((0 : Int32) + g)))) (own_BT off bb ((((0 : Int32) + g) / g)).toInt64) bb)) (.int 0)
set_option maxRecDepth 65536 in
set_option maxHeartbeats 40000000 in
theorem rm_wr2 (l : Launch) (Z : State) (a0 : Array Value) (hw : ∀ d ∈ tables_1, d.before a0 Z = true) (ws : List Jvm.Cond) (pk : Addr) (ce : Addr) (io : Addr) (off : Int32) (pw : Addr) (kc : ClassId) (kp : ClassId) (ko : ClassId) (g : Int32) (n : Int32) (md : Int32) (bb : Int32) (f : Int32 → Int32) (fo : Int32 → Int32) (h0 : Heap) (n0 : Nat) (Z0 : n0 ≤ h0.size) (H0 : Fld Z h0 pk "com/example/known_leaks/knownleaks/CellPacking" "powers" "[J" (.ref pw)) (H1 : Fld Z h0 pk "com/example/known_leaks/knownleaks/CellPacking" "cellsPerBlock" "I" (.int g)) (H2 : Fld Z h0 pk "com/example/known_leaks/knownleaks/CellPacking" "blockBits" "I" (.int bb)) (H3 : Arv Z h0 ce kc .int n (own_C f) (.int 0)) (H4 : Arv Z h0 pw kp .long g (own_P md) (.long (0 : Int64))) (H5 : Arv Z h0 io ko .byte (9 : Int32) (own_L fo) (.int 0)) (g_io : n0 ≤ io) (ne_pk_io : pk ≠ io) (ne_ce_io : ce ≠ io) (ne_pw_io : pw ≠ io) (hg0 : g ≠ 0) (hl0 : (0 : Int32) < n) (hl1 : ((0 : Int32) + g) < n) (hl2 : ¬ (((0 : Int32) + g) + g) < n) (hRA0 : own_RA g n (0 : Int32)) (hRB0 : own_RB (own_BT off bb (((0 : Int32) / g)).toInt64) bb) (hRA1 : own_RA g n ((0 : Int32) + g)) (hRB1 : own_RB (own_BT off bb ((((0 : Int32) + g) / g)).toInt64) bb) :
    Met l Z Y5 prog_4_method_7_code 15 none ws ({ frames := 1, cells := 0, slots := 0, locals := 15 } : Room) #[(.ref pk), (.ref ce), (.ref io), (.int off)] h0 (Q_wr2 Z pk ce io off pw kc kp ko g n md bb f fo h0 n0) := by
  refine own_body (plainFor_of_name pn6) ?_
  intro p e s m below meth c s₁ hx hby hret hlk hml hZ hown hnm X0 e0
  have N0 := Fr.nil n0
  refine Wp.back (U' := (s₁.setTop (mkF m 0 #[.val (.ref pk), .val (.ref ce), .val (.ref io), .val (.int off), .unset, .unset, .unset, .unset, .unset, .unset, .unset, .unset, .unset, .unset, .unset] []))) (fun t k => castTop (ef6_RRRI m pk ce io off) k) ?_
  refine Wp.back (U' := (s₁.setTop (mkF m 6 #[.val (.ref pk), .val (.ref ce), .val (.ref io), .val (.int off), .val (.int 0), .unset, .unset, .unset, .unset, .unset, .unset, .unset, .unset, .unset, .unset] [(.ref ce), (.int 0)]))) (fun t k => XT.iconstV X0.here hx rfl 0 (hb hby d6_0) (by decide) (XS.istore X0.here hx rfl (hb hby d6_1) rfl (l' := #[.val (.ref pk), .val (.ref ce), .val (.ref io), .val (.int off), .val (.int 0), .unset, .unset, .unset, .unset, .unset, .unset, .unset, .unset, .unset, .unset]) rfl (XS.iload X0.here hx rfl (hb hby d6_3) rfl (XS.aloadN X0.here hx rfl (hb hby d6_5) rfl rfl k)))) ?_
  have vq1 := H3
  obtain ⟨cl1, Ar1, -, qs1, qn1, -, -⟩ := vq1
  refine Wp.back (U' := (s₁.setTop (mkF m 7 #[.val (.ref pk), .val (.ref ce), .val (.ref io), .val (.int off), .val (.int 0), .unset, .unset, .unset, .unset, .unset, .unset, .unset, .unset, .unset, .unset] [(.int n), (.int 0)]))) (fun t k => X0.arraylength hx (by rw [e0]; exact Ar1.1) (State.isArrayOf_alike hZ.alike Ar1.2.1) (g := (mkF m 6 #[.val (.ref pk), .val (.ref ce), .val (.ref io), .val (.int off), .val (.int 0), .unset, .unset, .unset, .unset, .unset, .unset, .unset, .unset, .unset, .unset] [(.ref ce), (.int 0)])) rfl rfl (hb hby d6_6) t (by rw [len_of qs1 qn1]; exact k)) ?_
  refine Wp.back (U' := (s₁.setTop (mkF m 10 #[.val (.ref pk), .val (.ref ce), .val (.ref io), .val (.int off), .val (.int 0), .unset, .unset, .unset, .unset, .unset, .unset, .unset, .unset, .unset, .unset] []))) (fun t k => XS.icmpNo X0.here hx rfl (hb hby d6_7) rfl (tlt hl0).2.1 k) ?_
  refine own_pA0 pk ce io pw kc kp f off (0 : Int32) g n md hx hw hby hml hZ hown X0 e0 N0 Z0 H1 H0 H3 H4 hRA0 (fun T2 h2 L2 y2 X2 e2 N2 K2 => ?_)
  have f3_0 := Nat.le_trans Z0 K2.1
  have f3_1 := H0.keep K2 nin0
  have f3_2 := H1.keep K2 nin0
  have f3_3 := H2.keep K2 nin0
  have f3_4 := H3.keep K2 nin0
  have f3_5 := H4.keep K2 nin0
  have f3_6 := H5.keep K2 nin0
  have f3_7 := (Keep.refl h0 [io]).trans K2 all0
  refine own_pC0 pk ce io ko fo off (0 : Int32) g bb (f_min g (n - (0 : Int32))) y2 (own_sum f md (0 : Int32) (f_min g (n - (0 : Int32)))) (own_BT off bb (((0 : Int32) / g)).toInt64) hx hw hby hml hZ hown X2 e2 N2 f3_0 f3_2 f3_3 f3_6 g_io ne_pk_io hg0 rfl hRB0 (fun T4 h4 L4 y4 X4 e4 N4 K4 V4 => ?_)
  have f5_0 := Nat.le_trans f3_0 K4.1
  have f5_1 := f3_1.keep K4 (ninS ne_pk_io nin0)
  have f5_2 := f3_2.keep K4 (ninS ne_pk_io nin0)
  have f5_3 := f3_3.keep K4 (ninS ne_pk_io nin0)
  have f5_4 := f3_4.keep K4 (ninS ne_ce_io nin0)
  have f5_5 := f3_5.keep K4 (ninS ne_pw_io nin0)
  have f5_7 := f3_7.trans K4 (allS (Or.inl (List.mem_of_getElem? (i := 0) rfl)) all0)
  refine Wp.back (U' := (T4.setTop (mkF m 172 #[.val (.ref pk), .val (.ref ce), .val (.ref io), .val (.int off), .val (.int 0), .val (.long (own_sum f md (0 : Int32) (f_min g (n - (0 : Int32))))), .second, .val (.int (f_min g (n - (0 : Int32)))), .val (.long (own_BT off bb (((0 : Int32) / g)).toInt64)), .second, .val (.int (own_by (own_BT off bb (((0 : Int32) / g)).toInt64))), .val (.int (own_ib (own_BT off bb (((0 : Int32) / g)).toInt64))), .val (.long (own_sh (own_sum f md (0 : Int32) (f_min g (n - (0 : Int32)))) (own_BT off bb (((0 : Int32) / g)).toInt64) bb)), .second, .val (.int y4)] [(.ref pk), (.int 0)]))) (fun t k => XS.iload X4.here hx rfl (hb hby d6_169) rfl (XS.aloadN X4.here hx rfl (hb hby d6_171) rfl rfl k)) ?_
  obtain ⟨T6, X6, e6, st6⟩ := getF X4 hx hZ hown (host := "") (Or.inl (ow hw 19 rfl)) Via.refl e4 f5_2 (g := (mkF m 172 #[.val (.ref pk), .val (.ref ce), .val (.ref io), .val (.int off), .val (.int 0), .val (.long (own_sum f md (0 : Int32) (f_min g (n - (0 : Int32))))), .second, .val (.int (f_min g (n - (0 : Int32)))), .val (.long (own_BT off bb (((0 : Int32) / g)).toInt64)), .second, .val (.int (own_by (own_BT off bb (((0 : Int32) / g)).toInt64))), .val (.int (own_ib (own_BT off bb (((0 : Int32) / g)).toInt64))), .val (.long (own_sh (own_sum f md (0 : Int32) (f_min g (n - (0 : Int32)))) (own_BT off bb (((0 : Int32) / g)).toInt64) bb)), .second, .val (.int y4)] [(.ref pk), (.int 0)])) rfl rfl (hb hby d6_172)
  refine Wp.back (U' := (T6.setTop (mkF m 175 #[.val (.ref pk), .val (.ref ce), .val (.ref io), .val (.int off), .val (.int 0), .val (.long (own_sum f md (0 : Int32) (f_min g (n - (0 : Int32))))), .second, .val (.int (f_min g (n - (0 : Int32)))), .val (.long (own_BT off bb (((0 : Int32) / g)).toInt64)), .second, .val (.int (own_by (own_BT off bb (((0 : Int32) / g)).toInt64))), .val (.int (own_ib (own_BT off bb (((0 : Int32) / g)).toInt64))), .val (.long (own_sh (own_sum f md (0 : Int32) (f_min g (n - (0 : Int32)))) (own_BT off bb (((0 : Int32) / g)).toInt64) bb)), .second, .val (.int y4)] [(.int g), (.int 0)]))) st6 ?_
  refine Wp.back (U' := (T6.setTop (mkF m 6 #[.val (.ref pk), .val (.ref ce), .val (.ref io), .val (.int off), .val (.int ((0 : Int32) + g)), .val (.long (own_sum f md (0 : Int32) (f_min g (n - (0 : Int32))))), .second, .val (.int (f_min g (n - (0 : Int32)))), .val (.long (own_BT off bb (((0 : Int32) / g)).toInt64)), .second, .val (.int (own_by (own_BT off bb (((0 : Int32) / g)).toInt64))), .val (.int (own_ib (own_BT off bb (((0 : Int32) / g)).toInt64))), .val (.long (own_sh (own_sum f md (0 : Int32) (f_min g (n - (0 : Int32)))) (own_BT off bb (((0 : Int32) / g)).toInt64) bb)), .second, .val (.int y4)] [(.ref ce), (.int ((0 : Int32) + g))]))) (fun t k => XS.iadd X6.here hx rfl (hb hby d6_175) rfl (XS.istore X6.here hx rfl (hb hby d6_176) rfl (l' := #[.val (.ref pk), .val (.ref ce), .val (.ref io), .val (.int off), .val (.int ((0 : Int32) + g)), .val (.long (own_sum f md (0 : Int32) (f_min g (n - (0 : Int32))))), .second, .val (.int (f_min g (n - (0 : Int32)))), .val (.long (own_BT off bb (((0 : Int32) / g)).toInt64)), .second, .val (.int (own_by (own_BT off bb (((0 : Int32) / g)).toInt64))), .val (.int (own_ib (own_BT off bb (((0 : Int32) / g)).toInt64))), .val (.long (own_sh (own_sum f md (0 : Int32) (f_min g (n - (0 : Int32)))) (own_BT off bb (((0 : Int32) / g)).toInt64) bb)), .second, .val (.int y4)]) rfl (XS.goto X6.here hx rfl (pc0 := 178) (pc' := 3) rfl (hb hby d6_178) (by decide) (by decide) (XS.iload X6.here hx rfl (hb hby d6_3) rfl (XS.aloadN X6.here hx rfl (hb hby d6_5) rfl rfl k))))) ?_
  have vq7 := f5_4
  obtain ⟨cl7, Ar7, -, qs7, qn7, -, -⟩ := vq7
  refine Wp.back (U' := (T6.setTop (mkF m 7 #[.val (.ref pk), .val (.ref ce), .val (.ref io), .val (.int off), .val (.int ((0 : Int32) + g)), .val (.long (own_sum f md (0 : Int32) (f_min g (n - (0 : Int32))))), .second, .val (.int (f_min g (n - (0 : Int32)))), .val (.long (own_BT off bb (((0 : Int32) / g)).toInt64)), .second, .val (.int (own_by (own_BT off bb (((0 : Int32) / g)).toInt64))), .val (.int (own_ib (own_BT off bb (((0 : Int32) / g)).toInt64))), .val (.long (own_sh (own_sum f md (0 : Int32) (f_min g (n - (0 : Int32)))) (own_BT off bb (((0 : Int32) / g)).toInt64) bb)), .second, .val (.int y4)] [(.int n), (.int ((0 : Int32) + g))]))) (fun t k => X6.arraylength hx (by rw [e6]; exact Ar7.1) (State.isArrayOf_alike hZ.alike Ar7.2.1) (g := (mkF m 6 #[.val (.ref pk), .val (.ref ce), .val (.ref io), .val (.int off), .val (.int ((0 : Int32) + g)), .val (.long (own_sum f md (0 : Int32) (f_min g (n - (0 : Int32))))), .second, .val (.int (f_min g (n - (0 : Int32)))), .val (.long (own_BT off bb (((0 : Int32) / g)).toInt64)), .second, .val (.int (own_by (own_BT off bb (((0 : Int32) / g)).toInt64))), .val (.int (own_ib (own_BT off bb (((0 : Int32) / g)).toInt64))), .val (.long (own_sh (own_sum f md (0 : Int32) (f_min g (n - (0 : Int32)))) (own_BT off bb (((0 : Int32) / g)).toInt64) bb)), .second, .val (.int y4)] [(.ref ce), (.int ((0 : Int32) + g))])) rfl rfl (hb hby d6_6) t (by rw [len_of qs7 qn7]; exact k)) ?_
  refine Wp.back (U' := (T6.setTop (mkF m 10 #[.val (.ref pk), .val (.ref ce), .val (.ref io), .val (.int off), .val (.int ((0 : Int32) + g)), .val (.long (own_sum f md (0 : Int32) (f_min g (n - (0 : Int32))))), .second, .val (.int (f_min g (n - (0 : Int32)))), .val (.long (own_BT off bb (((0 : Int32) / g)).toInt64)), .second, .val (.int (own_by (own_BT off bb (((0 : Int32) / g)).toInt64))), .val (.int (own_ib (own_BT off bb (((0 : Int32) / g)).toInt64))), .val (.long (own_sh (own_sum f md (0 : Int32) (f_min g (n - (0 : Int32)))) (own_BT off bb (((0 : Int32) / g)).toInt64) bb)), .second, .val (.int y4)] []))) (fun t k => XS.icmpNo X6.here hx rfl (hb hby d6_7) rfl (tlt hl1).2.1 k) ?_
  refine own_pA1 pk ce io pw kc kp f off ((0 : Int32) + g) g n md (own_sum f md (0 : Int32) (f_min g (n - (0 : Int32)))) (f_min g (n - (0 : Int32))) (own_BT off bb (((0 : Int32) / g)).toInt64) (own_by (own_BT off bb (((0 : Int32) / g)).toInt64)) (own_ib (own_BT off bb (((0 : Int32) / g)).toInt64)) (own_sh (own_sum f md (0 : Int32) (f_min g (n - (0 : Int32)))) (own_BT off bb (((0 : Int32) / g)).toInt64) bb) y4 hx hw hby hml hZ hown X6 e6 N4 f5_0 f5_2 f5_1 f5_4 f5_5 hRA1 (fun T8 h8 L8 y8 X8 e8 N8 K8 => ?_)
  have f9_0 := Nat.le_trans f5_0 K8.1
  have f9_1 := f5_1.keep K8 nin0
  have f9_2 := f5_2.keep K8 nin0
  have f9_3 := f5_3.keep K8 nin0
  have f9_4 := f5_4.keep K8 nin0
  have f9_5 := f5_5.keep K8 nin0
  have f9_6 := f5_7.trans K8 all0
  have f9_7 := V4.keep K8 nin0
  refine own_pC1 pk ce io ko (own_turn fo (own_sum f md (0 : Int32) (f_min g (n - (0 : Int32)))) (own_BT off bb (((0 : Int32) / g)).toInt64) bb) off ((0 : Int32) + g) g bb (f_min g (n - ((0 : Int32) + g))) y8 (own_sum f md ((0 : Int32) + g) (f_min g (n - ((0 : Int32) + g)))) (own_BT off bb ((((0 : Int32) + g) / g)).toInt64) (own_by (own_BT off bb (((0 : Int32) / g)).toInt64)) (own_ib (own_BT off bb (((0 : Int32) / g)).toInt64)) (own_sh (own_sum f md (0 : Int32) (f_min g (n - (0 : Int32)))) (own_BT off bb (((0 : Int32) / g)).toInt64) bb) y4 hx hw hby hml hZ hown X8 e8 N8 f9_0 f9_2 f9_3 f9_7 g_io ne_pk_io hg0 rfl hRB1 (fun T10 h10 L10 y10 X10 e10 N10 K10 V10 => ?_)
  have f11_0 := Nat.le_trans f9_0 K10.1
  have f11_1 := f9_1.keep K10 (ninS ne_pk_io nin0)
  have f11_2 := f9_2.keep K10 (ninS ne_pk_io nin0)
  have f11_3 := f9_3.keep K10 (ninS ne_pk_io nin0)
  have f11_4 := f9_4.keep K10 (ninS ne_ce_io nin0)
  have f11_5 := f9_5.keep K10 (ninS ne_pw_io nin0)
  have f11_6 := f9_6.trans K10 (allS (Or.inl (List.mem_of_getElem? (i := 0) rfl)) all0)
  refine Wp.back (U' := (T10.setTop (mkF m 172 #[.val (.ref pk), .val (.ref ce), .val (.ref io), .val (.int off), .val (.int ((0 : Int32) + g)), .val (.long (own_sum f md ((0 : Int32) + g) (f_min g (n - ((0 : Int32) + g))))), .second, .val (.int (f_min g (n - ((0 : Int32) + g)))), .val (.long (own_BT off bb ((((0 : Int32) + g) / g)).toInt64)), .second, .val (.int (own_by (own_BT off bb ((((0 : Int32) + g) / g)).toInt64))), .val (.int (own_ib (own_BT off bb ((((0 : Int32) + g) / g)).toInt64))), .val (.long (own_sh (own_sum f md ((0 : Int32) + g) (f_min g (n - ((0 : Int32) + g)))) (own_BT off bb ((((0 : Int32) + g) / g)).toInt64) bb)), .second, .val (.int y10)] [(.ref pk), (.int ((0 : Int32) + g))]))) (fun t k => XS.iload X10.here hx rfl (hb hby d6_169) rfl (XS.aloadN X10.here hx rfl (hb hby d6_171) rfl rfl k)) ?_
  obtain ⟨T12, X12, e12, st12⟩ := getF X10 hx hZ hown (host := "") (Or.inl (ow hw 19 rfl)) Via.refl e10 f11_2 (g := (mkF m 172 #[.val (.ref pk), .val (.ref ce), .val (.ref io), .val (.int off), .val (.int ((0 : Int32) + g)), .val (.long (own_sum f md ((0 : Int32) + g) (f_min g (n - ((0 : Int32) + g))))), .second, .val (.int (f_min g (n - ((0 : Int32) + g)))), .val (.long (own_BT off bb ((((0 : Int32) + g) / g)).toInt64)), .second, .val (.int (own_by (own_BT off bb ((((0 : Int32) + g) / g)).toInt64))), .val (.int (own_ib (own_BT off bb ((((0 : Int32) + g) / g)).toInt64))), .val (.long (own_sh (own_sum f md ((0 : Int32) + g) (f_min g (n - ((0 : Int32) + g)))) (own_BT off bb ((((0 : Int32) + g) / g)).toInt64) bb)), .second, .val (.int y10)] [(.ref pk), (.int ((0 : Int32) + g))])) rfl rfl (hb hby d6_172)
  refine Wp.back (U' := (T12.setTop (mkF m 175 #[.val (.ref pk), .val (.ref ce), .val (.ref io), .val (.int off), .val (.int ((0 : Int32) + g)), .val (.long (own_sum f md ((0 : Int32) + g) (f_min g (n - ((0 : Int32) + g))))), .second, .val (.int (f_min g (n - ((0 : Int32) + g)))), .val (.long (own_BT off bb ((((0 : Int32) + g) / g)).toInt64)), .second, .val (.int (own_by (own_BT off bb ((((0 : Int32) + g) / g)).toInt64))), .val (.int (own_ib (own_BT off bb ((((0 : Int32) + g) / g)).toInt64))), .val (.long (own_sh (own_sum f md ((0 : Int32) + g) (f_min g (n - ((0 : Int32) + g)))) (own_BT off bb ((((0 : Int32) + g) / g)).toInt64) bb)), .second, .val (.int y10)] [(.int g), (.int ((0 : Int32) + g))]))) st12 ?_
  refine Wp.back (U' := (T12.setTop (mkF m 6 #[.val (.ref pk), .val (.ref ce), .val (.ref io), .val (.int off), .val (.int (((0 : Int32) + g) + g)), .val (.long (own_sum f md ((0 : Int32) + g) (f_min g (n - ((0 : Int32) + g))))), .second, .val (.int (f_min g (n - ((0 : Int32) + g)))), .val (.long (own_BT off bb ((((0 : Int32) + g) / g)).toInt64)), .second, .val (.int (own_by (own_BT off bb ((((0 : Int32) + g) / g)).toInt64))), .val (.int (own_ib (own_BT off bb ((((0 : Int32) + g) / g)).toInt64))), .val (.long (own_sh (own_sum f md ((0 : Int32) + g) (f_min g (n - ((0 : Int32) + g)))) (own_BT off bb ((((0 : Int32) + g) / g)).toInt64) bb)), .second, .val (.int y10)] [(.ref ce), (.int (((0 : Int32) + g) + g))]))) (fun t k => XS.iadd X12.here hx rfl (hb hby d6_175) rfl (XS.istore X12.here hx rfl (hb hby d6_176) rfl (l' := #[.val (.ref pk), .val (.ref ce), .val (.ref io), .val (.int off), .val (.int (((0 : Int32) + g) + g)), .val (.long (own_sum f md ((0 : Int32) + g) (f_min g (n - ((0 : Int32) + g))))), .second, .val (.int (f_min g (n - ((0 : Int32) + g)))), .val (.long (own_BT off bb ((((0 : Int32) + g) / g)).toInt64)), .second, .val (.int (own_by (own_BT off bb ((((0 : Int32) + g) / g)).toInt64))), .val (.int (own_ib (own_BT off bb ((((0 : Int32) + g) / g)).toInt64))), .val (.long (own_sh (own_sum f md ((0 : Int32) + g) (f_min g (n - ((0 : Int32) + g)))) (own_BT off bb ((((0 : Int32) + g) / g)).toInt64) bb)), .second, .val (.int y10)]) rfl (XS.goto X12.here hx rfl (pc0 := 178) (pc' := 3) rfl (hb hby d6_178) (by decide) (by decide) (XS.iload X12.here hx rfl (hb hby d6_3) rfl (XS.aloadN X12.here hx rfl (hb hby d6_5) rfl rfl k))))) ?_
  have vq13 := f11_4
  obtain ⟨cl13, Ar13, -, qs13, qn13, -, -⟩ := vq13
  refine Wp.back (U' := (T12.setTop (mkF m 7 #[.val (.ref pk), .val (.ref ce), .val (.ref io), .val (.int off), .val (.int (((0 : Int32) + g) + g)), .val (.long (own_sum f md ((0 : Int32) + g) (f_min g (n - ((0 : Int32) + g))))), .second, .val (.int (f_min g (n - ((0 : Int32) + g)))), .val (.long (own_BT off bb ((((0 : Int32) + g) / g)).toInt64)), .second, .val (.int (own_by (own_BT off bb ((((0 : Int32) + g) / g)).toInt64))), .val (.int (own_ib (own_BT off bb ((((0 : Int32) + g) / g)).toInt64))), .val (.long (own_sh (own_sum f md ((0 : Int32) + g) (f_min g (n - ((0 : Int32) + g)))) (own_BT off bb ((((0 : Int32) + g) / g)).toInt64) bb)), .second, .val (.int y10)] [(.int n), (.int (((0 : Int32) + g) + g))]))) (fun t k => X12.arraylength hx (by rw [e12]; exact Ar13.1) (State.isArrayOf_alike hZ.alike Ar13.2.1) (g := (mkF m 6 #[.val (.ref pk), .val (.ref ce), .val (.ref io), .val (.int off), .val (.int (((0 : Int32) + g) + g)), .val (.long (own_sum f md ((0 : Int32) + g) (f_min g (n - ((0 : Int32) + g))))), .second, .val (.int (f_min g (n - ((0 : Int32) + g)))), .val (.long (own_BT off bb ((((0 : Int32) + g) / g)).toInt64)), .second, .val (.int (own_by (own_BT off bb ((((0 : Int32) + g) / g)).toInt64))), .val (.int (own_ib (own_BT off bb ((((0 : Int32) + g) / g)).toInt64))), .val (.long (own_sh (own_sum f md ((0 : Int32) + g) (f_min g (n - ((0 : Int32) + g)))) (own_BT off bb ((((0 : Int32) + g) / g)).toInt64) bb)), .second, .val (.int y10)] [(.ref ce), (.int (((0 : Int32) + g) + g))])) rfl rfl (hb hby d6_6) t (by rw [len_of qs13 qn13]; exact k)) ?_
  refine Wp.back (U' := (T12.setTop (mkF m 181 #[.val (.ref pk), .val (.ref ce), .val (.ref io), .val (.int off), .val (.int (((0 : Int32) + g) + g)), .val (.long (own_sum f md ((0 : Int32) + g) (f_min g (n - ((0 : Int32) + g))))), .second, .val (.int (f_min g (n - ((0 : Int32) + g)))), .val (.long (own_BT off bb ((((0 : Int32) + g) / g)).toInt64)), .second, .val (.int (own_by (own_BT off bb ((((0 : Int32) + g) / g)).toInt64))), .val (.int (own_ib (own_BT off bb ((((0 : Int32) + g) / g)).toInt64))), .val (.long (own_sh (own_sum f md ((0 : Int32) + g) (f_min g (n - ((0 : Int32) + g)))) (own_BT off bb ((((0 : Int32) + g) / g)).toInt64) bb)), .second, .val (.int y10)] []))) (fun t k => XS.icmpYes X12.here hx rfl (pc0 := 7) (pc' := 181) rfl (hb hby d6_7) rfl (flt hl2).2.1 (by decide) (by decide) k) ?_
  obtain ⟨fs, hr, hrun, hended, hW, hsame⟩ := X12.leave (v := none) (fun _ => rfl)
  refine Wp.done (X12.returnOut hx hret (hb hby d6_181) hr) hrun hended ⟨_, _, rfl, ?_, ⟨_, rfl⟩, hW, hsame.mono (by decide) (by decide)⟩
  show Q_wr2 Z pk ce io off pw kc kp ko g n md bb f fo h0 n0 _ T12.heap _
  rw [e12]
  exact ⟨rfl, N10, f11_6, V10⟩
def Q_wr3 (Z : State) (pk : Addr) (ce : Addr) (io : Addr) (off : Int32) (pw : Addr) (kc : ClassId) (kp : ClassId) (ko : ClassId) (g : Int32) (n : Int32) (md : Int32) (bb : Int32) (f : Int32 → Int32) (fo : Int32 → Int32) (h0 : Heap) (n0 : Nat) (v : Option Value) (h : Heap) (L : List Loc) : Prop := v = none ∧ Fr n0 L ∧ Keep h0 h [io] ∧ Arv Z h io ko .byte (9 : Int32) (own_L (own_turn (own_turn (own_turn fo (own_sum f md (0 : Int32) (f_min g (n - (0 : Int32)))) (own_BT off bb (((0 : Int32) / g)).toInt64) bb) (own_sum f md ((0 : Int32) + g) (f_min g (n - ((0 : Int32) + g)))) (own_BT off bb ((((0 : Int32) + g) / g)).toInt64) bb) (own_sum f md (((0 : Int32) + g) + g) (f_min g (n - (((0 : Int32) + g) + g)))) (own_BT off bb (((((0 : Int32) + g) + g) / g)).toInt64) bb)) (.int 0)
set_option maxRecDepth 65536 in
set_option maxHeartbeats 40000000 in
theorem rm_wr3 (l : Launch) (Z : State) (a0 : Array Value) (hw : ∀ d ∈ tables_1, d.before a0 Z = true) (ws : List Jvm.Cond) (pk : Addr) (ce : Addr) (io : Addr) (off : Int32) (pw : Addr) (kc : ClassId) (kp : ClassId) (ko : ClassId) (g : Int32) (n : Int32) (md : Int32) (bb : Int32) (f : Int32 → Int32) (fo : Int32 → Int32) (h0 : Heap) (n0 : Nat) (Z0 : n0 ≤ h0.size) (H0 : Fld Z h0 pk "com/example/known_leaks/knownleaks/CellPacking" "powers" "[J" (.ref pw)) (H1 : Fld Z h0 pk "com/example/known_leaks/knownleaks/CellPacking" "cellsPerBlock" "I" (.int g)) (H2 : Fld Z h0 pk "com/example/known_leaks/knownleaks/CellPacking" "blockBits" "I" (.int bb)) (H3 : Arv Z h0 ce kc .int n (own_C f) (.int 0)) (H4 : Arv Z h0 pw kp .long g (own_P md) (.long (0 : Int64))) (H5 : Arv Z h0 io ko .byte (9 : Int32) (own_L fo) (.int 0)) (g_io : n0 ≤ io) (ne_pk_io : pk ≠ io) (ne_ce_io : ce ≠ io) (ne_pw_io : pw ≠ io) (hg0 : g ≠ 0) (hl0 : (0 : Int32) < n) (hl1 : ((0 : Int32) + g) < n) (hl2 : (((0 : Int32) + g) + g) < n) (hl3 : ¬ ((((0 : Int32) + g) + g) + g) < n) (hRA0 : own_RA g n (0 : Int32)) (hRB0 : own_RB (own_BT off bb (((0 : Int32) / g)).toInt64) bb) (hRA1 : own_RA g n ((0 : Int32) + g)) (hRB1 : own_RB (own_BT off bb ((((0 : Int32) + g) / g)).toInt64) bb) (hRA2 : own_RA g n (((0 : Int32) + g) + g)) (hRB2 : own_RB (own_BT off bb (((((0 : Int32) + g) + g) / g)).toInt64) bb) :
    Met l Z Y5 prog_4_method_7_code 15 none ws ({ frames := 1, cells := 0, slots := 0, locals := 15 } : Room) #[(.ref pk), (.ref ce), (.ref io), (.int off)] h0 (Q_wr3 Z pk ce io off pw kc kp ko g n md bb f fo h0 n0) := by
  refine own_body (plainFor_of_name pn6) ?_
  intro p e s m below meth c s₁ hx hby hret hlk hml hZ hown hnm X0 e0
  have N0 := Fr.nil n0
  refine Wp.back (U' := (s₁.setTop (mkF m 0 #[.val (.ref pk), .val (.ref ce), .val (.ref io), .val (.int off), .unset, .unset, .unset, .unset, .unset, .unset, .unset, .unset, .unset, .unset, .unset] []))) (fun t k => castTop (ef6_RRRI m pk ce io off) k) ?_
  refine Wp.back (U' := (s₁.setTop (mkF m 6 #[.val (.ref pk), .val (.ref ce), .val (.ref io), .val (.int off), .val (.int 0), .unset, .unset, .unset, .unset, .unset, .unset, .unset, .unset, .unset, .unset] [(.ref ce), (.int 0)]))) (fun t k => XT.iconstV X0.here hx rfl 0 (hb hby d6_0) (by decide) (XS.istore X0.here hx rfl (hb hby d6_1) rfl (l' := #[.val (.ref pk), .val (.ref ce), .val (.ref io), .val (.int off), .val (.int 0), .unset, .unset, .unset, .unset, .unset, .unset, .unset, .unset, .unset, .unset]) rfl (XS.iload X0.here hx rfl (hb hby d6_3) rfl (XS.aloadN X0.here hx rfl (hb hby d6_5) rfl rfl k)))) ?_
  have vq1 := H3
  obtain ⟨cl1, Ar1, -, qs1, qn1, -, -⟩ := vq1
  refine Wp.back (U' := (s₁.setTop (mkF m 7 #[.val (.ref pk), .val (.ref ce), .val (.ref io), .val (.int off), .val (.int 0), .unset, .unset, .unset, .unset, .unset, .unset, .unset, .unset, .unset, .unset] [(.int n), (.int 0)]))) (fun t k => X0.arraylength hx (by rw [e0]; exact Ar1.1) (State.isArrayOf_alike hZ.alike Ar1.2.1) (g := (mkF m 6 #[.val (.ref pk), .val (.ref ce), .val (.ref io), .val (.int off), .val (.int 0), .unset, .unset, .unset, .unset, .unset, .unset, .unset, .unset, .unset, .unset] [(.ref ce), (.int 0)])) rfl rfl (hb hby d6_6) t (by rw [len_of qs1 qn1]; exact k)) ?_
  refine Wp.back (U' := (s₁.setTop (mkF m 10 #[.val (.ref pk), .val (.ref ce), .val (.ref io), .val (.int off), .val (.int 0), .unset, .unset, .unset, .unset, .unset, .unset, .unset, .unset, .unset, .unset] []))) (fun t k => XS.icmpNo X0.here hx rfl (hb hby d6_7) rfl (tlt hl0).2.1 k) ?_
  refine own_pA0 pk ce io pw kc kp f off (0 : Int32) g n md hx hw hby hml hZ hown X0 e0 N0 Z0 H1 H0 H3 H4 hRA0 (fun T2 h2 L2 y2 X2 e2 N2 K2 => ?_)
  have f3_0 := Nat.le_trans Z0 K2.1
  have f3_1 := H0.keep K2 nin0
  have f3_2 := H1.keep K2 nin0
  have f3_3 := H2.keep K2 nin0
  have f3_4 := H3.keep K2 nin0
  have f3_5 := H4.keep K2 nin0
  have f3_6 := H5.keep K2 nin0
  have f3_7 := (Keep.refl h0 [io]).trans K2 all0
  refine own_pC0 pk ce io ko fo off (0 : Int32) g bb (f_min g (n - (0 : Int32))) y2 (own_sum f md (0 : Int32) (f_min g (n - (0 : Int32)))) (own_BT off bb (((0 : Int32) / g)).toInt64) hx hw hby hml hZ hown X2 e2 N2 f3_0 f3_2 f3_3 f3_6 g_io ne_pk_io hg0 rfl hRB0 (fun T4 h4 L4 y4 X4 e4 N4 K4 V4 => ?_)
  have f5_0 := Nat.le_trans f3_0 K4.1
  have f5_1 := f3_1.keep K4 (ninS ne_pk_io nin0)
  have f5_2 := f3_2.keep K4 (ninS ne_pk_io nin0)
  have f5_3 := f3_3.keep K4 (ninS ne_pk_io nin0)
  have f5_4 := f3_4.keep K4 (ninS ne_ce_io nin0)
  have f5_5 := f3_5.keep K4 (ninS ne_pw_io nin0)
  have f5_7 := f3_7.trans K4 (allS (Or.inl (List.mem_of_getElem? (i := 0) rfl)) all0)
  refine Wp.back (U' := (T4.setTop (mkF m 172 #[.val (.ref pk), .val (.ref ce), .val (.ref io), .val (.int off), .val (.int 0), .val (.long (own_sum f md (0 : Int32) (f_min g (n - (0 : Int32))))), .second, .val (.int (f_min g (n - (0 : Int32)))), .val (.long (own_BT off bb (((0 : Int32) / g)).toInt64)), .second, .val (.int (own_by (own_BT off bb (((0 : Int32) / g)).toInt64))), .val (.int (own_ib (own_BT off bb (((0 : Int32) / g)).toInt64))), .val (.long (own_sh (own_sum f md (0 : Int32) (f_min g (n - (0 : Int32)))) (own_BT off bb (((0 : Int32) / g)).toInt64) bb)), .second, .val (.int y4)] [(.ref pk), (.int 0)]))) (fun t k => XS.iload X4.here hx rfl (hb hby d6_169) rfl (XS.aloadN X4.here hx rfl (hb hby d6_171) rfl rfl k)) ?_
  obtain ⟨T6, X6, e6, st6⟩ := getF X4 hx hZ hown (host := "") (Or.inl (ow hw 19 rfl)) Via.refl e4 f5_2 (g := (mkF m 172 #[.val (.ref pk), .val (.ref ce), .val (.ref io), .val (.int off), .val (.int 0), .val (.long (own_sum f md (0 : Int32) (f_min g (n - (0 : Int32))))), .second, .val (.int (f_min g (n - (0 : Int32)))), .val (.long (own_BT off bb (((0 : Int32) / g)).toInt64)), .second, .val (.int (own_by (own_BT off bb (((0 : Int32) / g)).toInt64))), .val (.int (own_ib (own_BT off bb (((0 : Int32) / g)).toInt64))), .val (.long (own_sh (own_sum f md (0 : Int32) (f_min g (n - (0 : Int32)))) (own_BT off bb (((0 : Int32) / g)).toInt64) bb)), .second, .val (.int y4)] [(.ref pk), (.int 0)])) rfl rfl (hb hby d6_172)
  refine Wp.back (U' := (T6.setTop (mkF m 175 #[.val (.ref pk), .val (.ref ce), .val (.ref io), .val (.int off), .val (.int 0), .val (.long (own_sum f md (0 : Int32) (f_min g (n - (0 : Int32))))), .second, .val (.int (f_min g (n - (0 : Int32)))), .val (.long (own_BT off bb (((0 : Int32) / g)).toInt64)), .second, .val (.int (own_by (own_BT off bb (((0 : Int32) / g)).toInt64))), .val (.int (own_ib (own_BT off bb (((0 : Int32) / g)).toInt64))), .val (.long (own_sh (own_sum f md (0 : Int32) (f_min g (n - (0 : Int32)))) (own_BT off bb (((0 : Int32) / g)).toInt64) bb)), .second, .val (.int y4)] [(.int g), (.int 0)]))) st6 ?_
  refine Wp.back (U' := (T6.setTop (mkF m 6 #[.val (.ref pk), .val (.ref ce), .val (.ref io), .val (.int off), .val (.int ((0 : Int32) + g)), .val (.long (own_sum f md (0 : Int32) (f_min g (n - (0 : Int32))))), .second, .val (.int (f_min g (n - (0 : Int32)))), .val (.long (own_BT off bb (((0 : Int32) / g)).toInt64)), .second, .val (.int (own_by (own_BT off bb (((0 : Int32) / g)).toInt64))), .val (.int (own_ib (own_BT off bb (((0 : Int32) / g)).toInt64))), .val (.long (own_sh (own_sum f md (0 : Int32) (f_min g (n - (0 : Int32)))) (own_BT off bb (((0 : Int32) / g)).toInt64) bb)), .second, .val (.int y4)] [(.ref ce), (.int ((0 : Int32) + g))]))) (fun t k => XS.iadd X6.here hx rfl (hb hby d6_175) rfl (XS.istore X6.here hx rfl (hb hby d6_176) rfl (l' := #[.val (.ref pk), .val (.ref ce), .val (.ref io), .val (.int off), .val (.int ((0 : Int32) + g)), .val (.long (own_sum f md (0 : Int32) (f_min g (n - (0 : Int32))))), .second, .val (.int (f_min g (n - (0 : Int32)))), .val (.long (own_BT off bb (((0 : Int32) / g)).toInt64)), .second, .val (.int (own_by (own_BT off bb (((0 : Int32) / g)).toInt64))), .val (.int (own_ib (own_BT off bb (((0 : Int32) / g)).toInt64))), .val (.long (own_sh (own_sum f md (0 : Int32) (f_min g (n - (0 : Int32)))) (own_BT off bb (((0 : Int32) / g)).toInt64) bb)), .second, .val (.int y4)]) rfl (XS.goto X6.here hx rfl (pc0 := 178) (pc' := 3) rfl (hb hby d6_178) (by decide) (by decide) (XS.iload X6.here hx rfl (hb hby d6_3) rfl (XS.aloadN X6.here hx rfl (hb hby d6_5) rfl rfl k))))) ?_
  have vq7 := f5_4
  obtain ⟨cl7, Ar7, -, qs7, qn7, -, -⟩ := vq7
  refine Wp.back (U' := (T6.setTop (mkF m 7 #[.val (.ref pk), .val (.ref ce), .val (.ref io), .val (.int off), .val (.int ((0 : Int32) + g)), .val (.long (own_sum f md (0 : Int32) (f_min g (n - (0 : Int32))))), .second, .val (.int (f_min g (n - (0 : Int32)))), .val (.long (own_BT off bb (((0 : Int32) / g)).toInt64)), .second, .val (.int (own_by (own_BT off bb (((0 : Int32) / g)).toInt64))), .val (.int (own_ib (own_BT off bb (((0 : Int32) / g)).toInt64))), .val (.long (own_sh (own_sum f md (0 : Int32) (f_min g (n - (0 : Int32)))) (own_BT off bb (((0 : Int32) / g)).toInt64) bb)), .second, .val (.int y4)] [(.int n), (.int ((0 : Int32) + g))]))) (fun t k => X6.arraylength hx (by rw [e6]; exact Ar7.1) (State.isArrayOf_alike hZ.alike Ar7.2.1) (g := (mkF m 6 #[.val (.ref pk), .val (.ref ce), .val (.ref io), .val (.int off), .val (.int ((0 : Int32) + g)), .val (.long (own_sum f md (0 : Int32) (f_min g (n - (0 : Int32))))), .second, .val (.int (f_min g (n - (0 : Int32)))), .val (.long (own_BT off bb (((0 : Int32) / g)).toInt64)), .second, .val (.int (own_by (own_BT off bb (((0 : Int32) / g)).toInt64))), .val (.int (own_ib (own_BT off bb (((0 : Int32) / g)).toInt64))), .val (.long (own_sh (own_sum f md (0 : Int32) (f_min g (n - (0 : Int32)))) (own_BT off bb (((0 : Int32) / g)).toInt64) bb)), .second, .val (.int y4)] [(.ref ce), (.int ((0 : Int32) + g))])) rfl rfl (hb hby d6_6) t (by rw [len_of qs7 qn7]; exact k)) ?_
  refine Wp.back (U' := (T6.setTop (mkF m 10 #[.val (.ref pk), .val (.ref ce), .val (.ref io), .val (.int off), .val (.int ((0 : Int32) + g)), .val (.long (own_sum f md (0 : Int32) (f_min g (n - (0 : Int32))))), .second, .val (.int (f_min g (n - (0 : Int32)))), .val (.long (own_BT off bb (((0 : Int32) / g)).toInt64)), .second, .val (.int (own_by (own_BT off bb (((0 : Int32) / g)).toInt64))), .val (.int (own_ib (own_BT off bb (((0 : Int32) / g)).toInt64))), .val (.long (own_sh (own_sum f md (0 : Int32) (f_min g (n - (0 : Int32)))) (own_BT off bb (((0 : Int32) / g)).toInt64) bb)), .second, .val (.int y4)] []))) (fun t k => XS.icmpNo X6.here hx rfl (hb hby d6_7) rfl (tlt hl1).2.1 k) ?_
  refine own_pA1 pk ce io pw kc kp f off ((0 : Int32) + g) g n md (own_sum f md (0 : Int32) (f_min g (n - (0 : Int32)))) (f_min g (n - (0 : Int32))) (own_BT off bb (((0 : Int32) / g)).toInt64) (own_by (own_BT off bb (((0 : Int32) / g)).toInt64)) (own_ib (own_BT off bb (((0 : Int32) / g)).toInt64)) (own_sh (own_sum f md (0 : Int32) (f_min g (n - (0 : Int32)))) (own_BT off bb (((0 : Int32) / g)).toInt64) bb) y4 hx hw hby hml hZ hown X6 e6 N4 f5_0 f5_2 f5_1 f5_4 f5_5 hRA1 (fun T8 h8 L8 y8 X8 e8 N8 K8 => ?_)
  have f9_0 := Nat.le_trans f5_0 K8.1
  have f9_1 := f5_1.keep K8 nin0
  have f9_2 := f5_2.keep K8 nin0
  have f9_3 := f5_3.keep K8 nin0
  have f9_4 := f5_4.keep K8 nin0
  have f9_5 := f5_5.keep K8 nin0
  have f9_6 := f5_7.trans K8 all0
  have f9_7 := V4.keep K8 nin0
  refine own_pC1 pk ce io ko (own_turn fo (own_sum f md (0 : Int32) (f_min g (n - (0 : Int32)))) (own_BT off bb (((0 : Int32) / g)).toInt64) bb) off ((0 : Int32) + g) g bb (f_min g (n - ((0 : Int32) + g))) y8 (own_sum f md ((0 : Int32) + g) (f_min g (n - ((0 : Int32) + g)))) (own_BT off bb ((((0 : Int32) + g) / g)).toInt64) (own_by (own_BT off bb (((0 : Int32) / g)).toInt64)) (own_ib (own_BT off bb (((0 : Int32) / g)).toInt64)) (own_sh (own_sum f md (0 : Int32) (f_min g (n - (0 : Int32)))) (own_BT off bb (((0 : Int32) / g)).toInt64) bb) y4 hx hw hby hml hZ hown X8 e8 N8 f9_0 f9_2 f9_3 f9_7 g_io ne_pk_io hg0 rfl hRB1 (fun T10 h10 L10 y10 X10 e10 N10 K10 V10 => ?_)
  have f11_0 := Nat.le_trans f9_0 K10.1
  have f11_1 := f9_1.keep K10 (ninS ne_pk_io nin0)
  have f11_2 := f9_2.keep K10 (ninS ne_pk_io nin0)
  have f11_3 := f9_3.keep K10 (ninS ne_pk_io nin0)
  have f11_4 := f9_4.keep K10 (ninS ne_ce_io nin0)
  have f11_5 := f9_5.keep K10 (ninS ne_pw_io nin0)
  have f11_6 := f9_6.trans K10 (allS (Or.inl (List.mem_of_getElem? (i := 0) rfl)) all0)
  refine Wp.back (U' := (T10.setTop (mkF m 172 #[.val (.ref pk), .val (.ref ce), .val (.ref io), .val (.int off), .val (.int ((0 : Int32) + g)), .val (.long (own_sum f md ((0 : Int32) + g) (f_min g (n - ((0 : Int32) + g))))), .second, .val (.int (f_min g (n - ((0 : Int32) + g)))), .val (.long (own_BT off bb ((((0 : Int32) + g) / g)).toInt64)), .second, .val (.int (own_by (own_BT off bb ((((0 : Int32) + g) / g)).toInt64))), .val (.int (own_ib (own_BT off bb ((((0 : Int32) + g) / g)).toInt64))), .val (.long (own_sh (own_sum f md ((0 : Int32) + g) (f_min g (n - ((0 : Int32) + g)))) (own_BT off bb ((((0 : Int32) + g) / g)).toInt64) bb)), .second, .val (.int y10)] [(.ref pk), (.int ((0 : Int32) + g))]))) (fun t k => XS.iload X10.here hx rfl (hb hby d6_169) rfl (XS.aloadN X10.here hx rfl (hb hby d6_171) rfl rfl k)) ?_
  obtain ⟨T12, X12, e12, st12⟩ := getF X10 hx hZ hown (host := "") (Or.inl (ow hw 19 rfl)) Via.refl e10 f11_2 (g := (mkF m 172 #[.val (.ref pk), .val (.ref ce), .val (.ref io), .val (.int off), .val (.int ((0 : Int32) + g)), .val (.long (own_sum f md ((0 : Int32) + g) (f_min g (n - ((0 : Int32) + g))))), .second, .val (.int (f_min g (n - ((0 : Int32) + g)))), .val (.long (own_BT off bb ((((0 : Int32) + g) / g)).toInt64)), .second, .val (.int (own_by (own_BT off bb ((((0 : Int32) + g) / g)).toInt64))), .val (.int (own_ib (own_BT off bb ((((0 : Int32) + g) / g)).toInt64))), .val (.long (own_sh (own_sum f md ((0 : Int32) + g) (f_min g (n - ((0 : Int32) + g)))) (own_BT off bb ((((0 : Int32) + g) / g)).toInt64) bb)), .second, .val (.int y10)] [(.ref pk), (.int ((0 : Int32) + g))])) rfl rfl (hb hby d6_172)
  refine Wp.back (U' := (T12.setTop (mkF m 175 #[.val (.ref pk), .val (.ref ce), .val (.ref io), .val (.int off), .val (.int ((0 : Int32) + g)), .val (.long (own_sum f md ((0 : Int32) + g) (f_min g (n - ((0 : Int32) + g))))), .second, .val (.int (f_min g (n - ((0 : Int32) + g)))), .val (.long (own_BT off bb ((((0 : Int32) + g) / g)).toInt64)), .second, .val (.int (own_by (own_BT off bb ((((0 : Int32) + g) / g)).toInt64))), .val (.int (own_ib (own_BT off bb ((((0 : Int32) + g) / g)).toInt64))), .val (.long (own_sh (own_sum f md ((0 : Int32) + g) (f_min g (n - ((0 : Int32) + g)))) (own_BT off bb ((((0 : Int32) + g) / g)).toInt64) bb)), .second, .val (.int y10)] [(.int g), (.int ((0 : Int32) + g))]))) st12 ?_
  refine Wp.back (U' := (T12.setTop (mkF m 6 #[.val (.ref pk), .val (.ref ce), .val (.ref io), .val (.int off), .val (.int (((0 : Int32) + g) + g)), .val (.long (own_sum f md ((0 : Int32) + g) (f_min g (n - ((0 : Int32) + g))))), .second, .val (.int (f_min g (n - ((0 : Int32) + g)))), .val (.long (own_BT off bb ((((0 : Int32) + g) / g)).toInt64)), .second, .val (.int (own_by (own_BT off bb ((((0 : Int32) + g) / g)).toInt64))), .val (.int (own_ib (own_BT off bb ((((0 : Int32) + g) / g)).toInt64))), .val (.long (own_sh (own_sum f md ((0 : Int32) + g) (f_min g (n - ((0 : Int32) + g)))) (own_BT off bb ((((0 : Int32) + g) / g)).toInt64) bb)), .second, .val (.int y10)] [(.ref ce), (.int (((0 : Int32) + g) + g))]))) (fun t k => XS.iadd X12.here hx rfl (hb hby d6_175) rfl (XS.istore X12.here hx rfl (hb hby d6_176) rfl (l' := #[.val (.ref pk), .val (.ref ce), .val (.ref io), .val (.int off), .val (.int (((0 : Int32) + g) + g)), .val (.long (own_sum f md ((0 : Int32) + g) (f_min g (n - ((0 : Int32) + g))))), .second, .val (.int (f_min g (n - ((0 : Int32) + g)))), .val (.long (own_BT off bb ((((0 : Int32) + g) / g)).toInt64)), .second, .val (.int (own_by (own_BT off bb ((((0 : Int32) + g) / g)).toInt64))), .val (.int (own_ib (own_BT off bb ((((0 : Int32) + g) / g)).toInt64))), .val (.long (own_sh (own_sum f md ((0 : Int32) + g) (f_min g (n - ((0 : Int32) + g)))) (own_BT off bb ((((0 : Int32) + g) / g)).toInt64) bb)), .second, .val (.int y10)]) rfl (XS.goto X12.here hx rfl (pc0 := 178) (pc' := 3) rfl (hb hby d6_178) (by decide) (by decide) (XS.iload X12.here hx rfl (hb hby d6_3) rfl (XS.aloadN X12.here hx rfl (hb hby d6_5) rfl rfl k))))) ?_
  have vq13 := f11_4
  obtain ⟨cl13, Ar13, -, qs13, qn13, -, -⟩ := vq13
  refine Wp.back (U' := (T12.setTop (mkF m 7 #[.val (.ref pk), .val (.ref ce), .val (.ref io), .val (.int off), .val (.int (((0 : Int32) + g) + g)), .val (.long (own_sum f md ((0 : Int32) + g) (f_min g (n - ((0 : Int32) + g))))), .second, .val (.int (f_min g (n - ((0 : Int32) + g)))), .val (.long (own_BT off bb ((((0 : Int32) + g) / g)).toInt64)), .second, .val (.int (own_by (own_BT off bb ((((0 : Int32) + g) / g)).toInt64))), .val (.int (own_ib (own_BT off bb ((((0 : Int32) + g) / g)).toInt64))), .val (.long (own_sh (own_sum f md ((0 : Int32) + g) (f_min g (n - ((0 : Int32) + g)))) (own_BT off bb ((((0 : Int32) + g) / g)).toInt64) bb)), .second, .val (.int y10)] [(.int n), (.int (((0 : Int32) + g) + g))]))) (fun t k => X12.arraylength hx (by rw [e12]; exact Ar13.1) (State.isArrayOf_alike hZ.alike Ar13.2.1) (g := (mkF m 6 #[.val (.ref pk), .val (.ref ce), .val (.ref io), .val (.int off), .val (.int (((0 : Int32) + g) + g)), .val (.long (own_sum f md ((0 : Int32) + g) (f_min g (n - ((0 : Int32) + g))))), .second, .val (.int (f_min g (n - ((0 : Int32) + g)))), .val (.long (own_BT off bb ((((0 : Int32) + g) / g)).toInt64)), .second, .val (.int (own_by (own_BT off bb ((((0 : Int32) + g) / g)).toInt64))), .val (.int (own_ib (own_BT off bb ((((0 : Int32) + g) / g)).toInt64))), .val (.long (own_sh (own_sum f md ((0 : Int32) + g) (f_min g (n - ((0 : Int32) + g)))) (own_BT off bb ((((0 : Int32) + g) / g)).toInt64) bb)), .second, .val (.int y10)] [(.ref ce), (.int (((0 : Int32) + g) + g))])) rfl rfl (hb hby d6_6) t (by rw [len_of qs13 qn13]; exact k)) ?_
  refine Wp.back (U' := (T12.setTop (mkF m 10 #[.val (.ref pk), .val (.ref ce), .val (.ref io), .val (.int off), .val (.int (((0 : Int32) + g) + g)), .val (.long (own_sum f md ((0 : Int32) + g) (f_min g (n - ((0 : Int32) + g))))), .second, .val (.int (f_min g (n - ((0 : Int32) + g)))), .val (.long (own_BT off bb ((((0 : Int32) + g) / g)).toInt64)), .second, .val (.int (own_by (own_BT off bb ((((0 : Int32) + g) / g)).toInt64))), .val (.int (own_ib (own_BT off bb ((((0 : Int32) + g) / g)).toInt64))), .val (.long (own_sh (own_sum f md ((0 : Int32) + g) (f_min g (n - ((0 : Int32) + g)))) (own_BT off bb ((((0 : Int32) + g) / g)).toInt64) bb)), .second, .val (.int y10)] []))) (fun t k => XS.icmpNo X12.here hx rfl (hb hby d6_7) rfl (tlt hl2).2.1 k) ?_
  refine own_pA1 pk ce io pw kc kp f off (((0 : Int32) + g) + g) g n md (own_sum f md ((0 : Int32) + g) (f_min g (n - ((0 : Int32) + g)))) (f_min g (n - ((0 : Int32) + g))) (own_BT off bb ((((0 : Int32) + g) / g)).toInt64) (own_by (own_BT off bb ((((0 : Int32) + g) / g)).toInt64)) (own_ib (own_BT off bb ((((0 : Int32) + g) / g)).toInt64)) (own_sh (own_sum f md ((0 : Int32) + g) (f_min g (n - ((0 : Int32) + g)))) (own_BT off bb ((((0 : Int32) + g) / g)).toInt64) bb) y10 hx hw hby hml hZ hown X12 e12 N10 f11_0 f11_2 f11_1 f11_4 f11_5 hRA2 (fun T14 h14 L14 y14 X14 e14 N14 K14 => ?_)
  have f15_0 := Nat.le_trans f11_0 K14.1
  have f15_1 := f11_1.keep K14 nin0
  have f15_2 := f11_2.keep K14 nin0
  have f15_3 := f11_3.keep K14 nin0
  have f15_4 := f11_4.keep K14 nin0
  have f15_5 := f11_5.keep K14 nin0
  have f15_6 := f11_6.trans K14 all0
  have f15_7 := V10.keep K14 nin0
  refine own_pC1 pk ce io ko (own_turn (own_turn fo (own_sum f md (0 : Int32) (f_min g (n - (0 : Int32)))) (own_BT off bb (((0 : Int32) / g)).toInt64) bb) (own_sum f md ((0 : Int32) + g) (f_min g (n - ((0 : Int32) + g)))) (own_BT off bb ((((0 : Int32) + g) / g)).toInt64) bb) off (((0 : Int32) + g) + g) g bb (f_min g (n - (((0 : Int32) + g) + g))) y14 (own_sum f md (((0 : Int32) + g) + g) (f_min g (n - (((0 : Int32) + g) + g)))) (own_BT off bb (((((0 : Int32) + g) + g) / g)).toInt64) (own_by (own_BT off bb ((((0 : Int32) + g) / g)).toInt64)) (own_ib (own_BT off bb ((((0 : Int32) + g) / g)).toInt64)) (own_sh (own_sum f md ((0 : Int32) + g) (f_min g (n - ((0 : Int32) + g)))) (own_BT off bb ((((0 : Int32) + g) / g)).toInt64) bb) y10 hx hw hby hml hZ hown X14 e14 N14 f15_0 f15_2 f15_3 f15_7 g_io ne_pk_io hg0 rfl hRB2 (fun T16 h16 L16 y16 X16 e16 N16 K16 V16 => ?_)
  have f17_0 := Nat.le_trans f15_0 K16.1
  have f17_1 := f15_1.keep K16 (ninS ne_pk_io nin0)
  have f17_2 := f15_2.keep K16 (ninS ne_pk_io nin0)
  have f17_3 := f15_3.keep K16 (ninS ne_pk_io nin0)
  have f17_4 := f15_4.keep K16 (ninS ne_ce_io nin0)
  have f17_5 := f15_5.keep K16 (ninS ne_pw_io nin0)
  have f17_6 := f15_6.trans K16 (allS (Or.inl (List.mem_of_getElem? (i := 0) rfl)) all0)
  refine Wp.back (U' := (T16.setTop (mkF m 172 #[.val (.ref pk), .val (.ref ce), .val (.ref io), .val (.int off), .val (.int (((0 : Int32) + g) + g)), .val (.long (own_sum f md (((0 : Int32) + g) + g) (f_min g (n - (((0 : Int32) + g) + g))))), .second, .val (.int (f_min g (n - (((0 : Int32) + g) + g)))), .val (.long (own_BT off bb (((((0 : Int32) + g) + g) / g)).toInt64)), .second, .val (.int (own_by (own_BT off bb (((((0 : Int32) + g) + g) / g)).toInt64))), .val (.int (own_ib (own_BT off bb (((((0 : Int32) + g) + g) / g)).toInt64))), .val (.long (own_sh (own_sum f md (((0 : Int32) + g) + g) (f_min g (n - (((0 : Int32) + g) + g)))) (own_BT off bb (((((0 : Int32) + g) + g) / g)).toInt64) bb)), .second, .val (.int y16)] [(.ref pk), (.int (((0 : Int32) + g) + g))]))) (fun t k => XS.iload X16.here hx rfl (hb hby d6_169) rfl (XS.aloadN X16.here hx rfl (hb hby d6_171) rfl rfl k)) ?_
  obtain ⟨T18, X18, e18, st18⟩ := getF X16 hx hZ hown (host := "") (Or.inl (ow hw 19 rfl)) Via.refl e16 f17_2 (g := (mkF m 172 #[.val (.ref pk), .val (.ref ce), .val (.ref io), .val (.int off), .val (.int (((0 : Int32) + g) + g)), .val (.long (own_sum f md (((0 : Int32) + g) + g) (f_min g (n - (((0 : Int32) + g) + g))))), .second, .val (.int (f_min g (n - (((0 : Int32) + g) + g)))), .val (.long (own_BT off bb (((((0 : Int32) + g) + g) / g)).toInt64)), .second, .val (.int (own_by (own_BT off bb (((((0 : Int32) + g) + g) / g)).toInt64))), .val (.int (own_ib (own_BT off bb (((((0 : Int32) + g) + g) / g)).toInt64))), .val (.long (own_sh (own_sum f md (((0 : Int32) + g) + g) (f_min g (n - (((0 : Int32) + g) + g)))) (own_BT off bb (((((0 : Int32) + g) + g) / g)).toInt64) bb)), .second, .val (.int y16)] [(.ref pk), (.int (((0 : Int32) + g) + g))])) rfl rfl (hb hby d6_172)
  refine Wp.back (U' := (T18.setTop (mkF m 175 #[.val (.ref pk), .val (.ref ce), .val (.ref io), .val (.int off), .val (.int (((0 : Int32) + g) + g)), .val (.long (own_sum f md (((0 : Int32) + g) + g) (f_min g (n - (((0 : Int32) + g) + g))))), .second, .val (.int (f_min g (n - (((0 : Int32) + g) + g)))), .val (.long (own_BT off bb (((((0 : Int32) + g) + g) / g)).toInt64)), .second, .val (.int (own_by (own_BT off bb (((((0 : Int32) + g) + g) / g)).toInt64))), .val (.int (own_ib (own_BT off bb (((((0 : Int32) + g) + g) / g)).toInt64))), .val (.long (own_sh (own_sum f md (((0 : Int32) + g) + g) (f_min g (n - (((0 : Int32) + g) + g)))) (own_BT off bb (((((0 : Int32) + g) + g) / g)).toInt64) bb)), .second, .val (.int y16)] [(.int g), (.int (((0 : Int32) + g) + g))]))) st18 ?_
  refine Wp.back (U' := (T18.setTop (mkF m 6 #[.val (.ref pk), .val (.ref ce), .val (.ref io), .val (.int off), .val (.int ((((0 : Int32) + g) + g) + g)), .val (.long (own_sum f md (((0 : Int32) + g) + g) (f_min g (n - (((0 : Int32) + g) + g))))), .second, .val (.int (f_min g (n - (((0 : Int32) + g) + g)))), .val (.long (own_BT off bb (((((0 : Int32) + g) + g) / g)).toInt64)), .second, .val (.int (own_by (own_BT off bb (((((0 : Int32) + g) + g) / g)).toInt64))), .val (.int (own_ib (own_BT off bb (((((0 : Int32) + g) + g) / g)).toInt64))), .val (.long (own_sh (own_sum f md (((0 : Int32) + g) + g) (f_min g (n - (((0 : Int32) + g) + g)))) (own_BT off bb (((((0 : Int32) + g) + g) / g)).toInt64) bb)), .second, .val (.int y16)] [(.ref ce), (.int ((((0 : Int32) + g) + g) + g))]))) (fun t k => XS.iadd X18.here hx rfl (hb hby d6_175) rfl (XS.istore X18.here hx rfl (hb hby d6_176) rfl (l' := #[.val (.ref pk), .val (.ref ce), .val (.ref io), .val (.int off), .val (.int ((((0 : Int32) + g) + g) + g)), .val (.long (own_sum f md (((0 : Int32) + g) + g) (f_min g (n - (((0 : Int32) + g) + g))))), .second, .val (.int (f_min g (n - (((0 : Int32) + g) + g)))), .val (.long (own_BT off bb (((((0 : Int32) + g) + g) / g)).toInt64)), .second, .val (.int (own_by (own_BT off bb (((((0 : Int32) + g) + g) / g)).toInt64))), .val (.int (own_ib (own_BT off bb (((((0 : Int32) + g) + g) / g)).toInt64))), .val (.long (own_sh (own_sum f md (((0 : Int32) + g) + g) (f_min g (n - (((0 : Int32) + g) + g)))) (own_BT off bb (((((0 : Int32) + g) + g) / g)).toInt64) bb)), .second, .val (.int y16)]) rfl (XS.goto X18.here hx rfl (pc0 := 178) (pc' := 3) rfl (hb hby d6_178) (by decide) (by decide) (XS.iload X18.here hx rfl (hb hby d6_3) rfl (XS.aloadN X18.here hx rfl (hb hby d6_5) rfl rfl k))))) ?_
  have vq19 := f17_4
  obtain ⟨cl19, Ar19, -, qs19, qn19, -, -⟩ := vq19
  refine Wp.back (U' := (T18.setTop (mkF m 7 #[.val (.ref pk), .val (.ref ce), .val (.ref io), .val (.int off), .val (.int ((((0 : Int32) + g) + g) + g)), .val (.long (own_sum f md (((0 : Int32) + g) + g) (f_min g (n - (((0 : Int32) + g) + g))))), .second, .val (.int (f_min g (n - (((0 : Int32) + g) + g)))), .val (.long (own_BT off bb (((((0 : Int32) + g) + g) / g)).toInt64)), .second, .val (.int (own_by (own_BT off bb (((((0 : Int32) + g) + g) / g)).toInt64))), .val (.int (own_ib (own_BT off bb (((((0 : Int32) + g) + g) / g)).toInt64))), .val (.long (own_sh (own_sum f md (((0 : Int32) + g) + g) (f_min g (n - (((0 : Int32) + g) + g)))) (own_BT off bb (((((0 : Int32) + g) + g) / g)).toInt64) bb)), .second, .val (.int y16)] [(.int n), (.int ((((0 : Int32) + g) + g) + g))]))) (fun t k => X18.arraylength hx (by rw [e18]; exact Ar19.1) (State.isArrayOf_alike hZ.alike Ar19.2.1) (g := (mkF m 6 #[.val (.ref pk), .val (.ref ce), .val (.ref io), .val (.int off), .val (.int ((((0 : Int32) + g) + g) + g)), .val (.long (own_sum f md (((0 : Int32) + g) + g) (f_min g (n - (((0 : Int32) + g) + g))))), .second, .val (.int (f_min g (n - (((0 : Int32) + g) + g)))), .val (.long (own_BT off bb (((((0 : Int32) + g) + g) / g)).toInt64)), .second, .val (.int (own_by (own_BT off bb (((((0 : Int32) + g) + g) / g)).toInt64))), .val (.int (own_ib (own_BT off bb (((((0 : Int32) + g) + g) / g)).toInt64))), .val (.long (own_sh (own_sum f md (((0 : Int32) + g) + g) (f_min g (n - (((0 : Int32) + g) + g)))) (own_BT off bb (((((0 : Int32) + g) + g) / g)).toInt64) bb)), .second, .val (.int y16)] [(.ref ce), (.int ((((0 : Int32) + g) + g) + g))])) rfl rfl (hb hby d6_6) t (by rw [len_of qs19 qn19]; exact k)) ?_
  refine Wp.back (U' := (T18.setTop (mkF m 181 #[.val (.ref pk), .val (.ref ce), .val (.ref io), .val (.int off), .val (.int ((((0 : Int32) + g) + g) + g)), .val (.long (own_sum f md (((0 : Int32) + g) + g) (f_min g (n - (((0 : Int32) + g) + g))))), .second, .val (.int (f_min g (n - (((0 : Int32) + g) + g)))), .val (.long (own_BT off bb (((((0 : Int32) + g) + g) / g)).toInt64)), .second, .val (.int (own_by (own_BT off bb (((((0 : Int32) + g) + g) / g)).toInt64))), .val (.int (own_ib (own_BT off bb (((((0 : Int32) + g) + g) / g)).toInt64))), .val (.long (own_sh (own_sum f md (((0 : Int32) + g) + g) (f_min g (n - (((0 : Int32) + g) + g)))) (own_BT off bb (((((0 : Int32) + g) + g) / g)).toInt64) bb)), .second, .val (.int y16)] []))) (fun t k => XS.icmpYes X18.here hx rfl (pc0 := 7) (pc' := 181) rfl (hb hby d6_7) rfl (flt hl3).2.1 (by decide) (by decide) k) ?_
  obtain ⟨fs, hr, hrun, hended, hW, hsame⟩ := X18.leave (v := none) (fun _ => rfl)
  refine Wp.done (X18.returnOut hx hret (hb hby d6_181) hr) hrun hended ⟨_, _, rfl, ?_, ⟨_, rfl⟩, hW, hsame.mono (by decide) (by decide)⟩
  show Q_wr3 Z pk ce io off pw kc kp ko g n md bb f fo h0 n0 _ T18.heap _
  rw [e18]
  exact ⟨rfl, N16, f17_6, V16⟩
def Q_wr4 (Z : State) (pk : Addr) (ce : Addr) (io : Addr) (off : Int32) (pw : Addr) (kc : ClassId) (kp : ClassId) (ko : ClassId) (g : Int32) (n : Int32) (md : Int32) (bb : Int32) (f : Int32 → Int32) (fo : Int32 → Int32) (h0 : Heap) (n0 : Nat) (v : Option Value) (h : Heap) (L : List Loc) : Prop := v = none ∧ Fr n0 L ∧ Keep h0 h [io] ∧ Arv Z h io ko .byte (9 : Int32) (own_L (own_turn (own_turn (own_turn (own_turn fo (own_sum f md (0 : Int32) (f_min g (n - (0 : Int32)))) (own_BT off bb (((0 : Int32) / g)).toInt64) bb) (own_sum f md ((0 : Int32) + g) (f_min g (n - ((0 : Int32) + g)))) (own_BT off bb ((((0 : Int32) + g) / g)).toInt64) bb) (own_sum f md (((0 : Int32) + g) + g) (f_min g (n - (((0 : Int32) + g) + g)))) (own_BT off bb (((((0 : Int32) + g) + g) / g)).toInt64) bb) (own_sum f md ((((0 : Int32) + g) + g) + g) (f_min g (n - ((((0 : Int32) + g) + g) + g)))) (own_BT off bb ((((((0 : Int32) + g) + g) + g) / g)).toInt64) bb)) (.int 0)
set_option maxRecDepth 65536 in
set_option maxHeartbeats 40000000 in
theorem rm_wr4 (l : Launch) (Z : State) (a0 : Array Value) (hw : ∀ d ∈ tables_1, d.before a0 Z = true) (ws : List Jvm.Cond) (pk : Addr) (ce : Addr) (io : Addr) (off : Int32) (pw : Addr) (kc : ClassId) (kp : ClassId) (ko : ClassId) (g : Int32) (n : Int32) (md : Int32) (bb : Int32) (f : Int32 → Int32) (fo : Int32 → Int32) (h0 : Heap) (n0 : Nat) (Z0 : n0 ≤ h0.size) (H0 : Fld Z h0 pk "com/example/known_leaks/knownleaks/CellPacking" "powers" "[J" (.ref pw)) (H1 : Fld Z h0 pk "com/example/known_leaks/knownleaks/CellPacking" "cellsPerBlock" "I" (.int g)) (H2 : Fld Z h0 pk "com/example/known_leaks/knownleaks/CellPacking" "blockBits" "I" (.int bb)) (H3 : Arv Z h0 ce kc .int n (own_C f) (.int 0)) (H4 : Arv Z h0 pw kp .long g (own_P md) (.long (0 : Int64))) (H5 : Arv Z h0 io ko .byte (9 : Int32) (own_L fo) (.int 0)) (g_io : n0 ≤ io) (ne_pk_io : pk ≠ io) (ne_ce_io : ce ≠ io) (ne_pw_io : pw ≠ io) (hg0 : g ≠ 0) (hl0 : (0 : Int32) < n) (hl1 : ((0 : Int32) + g) < n) (hl2 : (((0 : Int32) + g) + g) < n) (hl3 : ((((0 : Int32) + g) + g) + g) < n) (hl4 : ¬ (((((0 : Int32) + g) + g) + g) + g) < n) (hRA0 : own_RA g n (0 : Int32)) (hRB0 : own_RB (own_BT off bb (((0 : Int32) / g)).toInt64) bb) (hRA1 : own_RA g n ((0 : Int32) + g)) (hRB1 : own_RB (own_BT off bb ((((0 : Int32) + g) / g)).toInt64) bb) (hRA2 : own_RA g n (((0 : Int32) + g) + g)) (hRB2 : own_RB (own_BT off bb (((((0 : Int32) + g) + g) / g)).toInt64) bb) (hRA3 : own_RA g n ((((0 : Int32) + g) + g) + g)) (hRB3 : own_RB (own_BT off bb ((((((0 : Int32) + g) + g) + g) / g)).toInt64) bb) :
    Met l Z Y5 prog_4_method_7_code 15 none ws ({ frames := 1, cells := 0, slots := 0, locals := 15 } : Room) #[(.ref pk), (.ref ce), (.ref io), (.int off)] h0 (Q_wr4 Z pk ce io off pw kc kp ko g n md bb f fo h0 n0) := by
  refine own_body (plainFor_of_name pn6) ?_
  intro p e s m below meth c s₁ hx hby hret hlk hml hZ hown hnm X0 e0
  have N0 := Fr.nil n0
  refine Wp.back (U' := (s₁.setTop (mkF m 0 #[.val (.ref pk), .val (.ref ce), .val (.ref io), .val (.int off), .unset, .unset, .unset, .unset, .unset, .unset, .unset, .unset, .unset, .unset, .unset] []))) (fun t k => castTop (ef6_RRRI m pk ce io off) k) ?_
  refine Wp.back (U' := (s₁.setTop (mkF m 6 #[.val (.ref pk), .val (.ref ce), .val (.ref io), .val (.int off), .val (.int 0), .unset, .unset, .unset, .unset, .unset, .unset, .unset, .unset, .unset, .unset] [(.ref ce), (.int 0)]))) (fun t k => XT.iconstV X0.here hx rfl 0 (hb hby d6_0) (by decide) (XS.istore X0.here hx rfl (hb hby d6_1) rfl (l' := #[.val (.ref pk), .val (.ref ce), .val (.ref io), .val (.int off), .val (.int 0), .unset, .unset, .unset, .unset, .unset, .unset, .unset, .unset, .unset, .unset]) rfl (XS.iload X0.here hx rfl (hb hby d6_3) rfl (XS.aloadN X0.here hx rfl (hb hby d6_5) rfl rfl k)))) ?_
  have vq1 := H3
  obtain ⟨cl1, Ar1, -, qs1, qn1, -, -⟩ := vq1
  refine Wp.back (U' := (s₁.setTop (mkF m 7 #[.val (.ref pk), .val (.ref ce), .val (.ref io), .val (.int off), .val (.int 0), .unset, .unset, .unset, .unset, .unset, .unset, .unset, .unset, .unset, .unset] [(.int n), (.int 0)]))) (fun t k => X0.arraylength hx (by rw [e0]; exact Ar1.1) (State.isArrayOf_alike hZ.alike Ar1.2.1) (g := (mkF m 6 #[.val (.ref pk), .val (.ref ce), .val (.ref io), .val (.int off), .val (.int 0), .unset, .unset, .unset, .unset, .unset, .unset, .unset, .unset, .unset, .unset] [(.ref ce), (.int 0)])) rfl rfl (hb hby d6_6) t (by rw [len_of qs1 qn1]; exact k)) ?_
  refine Wp.back (U' := (s₁.setTop (mkF m 10 #[.val (.ref pk), .val (.ref ce), .val (.ref io), .val (.int off), .val (.int 0), .unset, .unset, .unset, .unset, .unset, .unset, .unset, .unset, .unset, .unset] []))) (fun t k => XS.icmpNo X0.here hx rfl (hb hby d6_7) rfl (tlt hl0).2.1 k) ?_
  refine own_pA0 pk ce io pw kc kp f off (0 : Int32) g n md hx hw hby hml hZ hown X0 e0 N0 Z0 H1 H0 H3 H4 hRA0 (fun T2 h2 L2 y2 X2 e2 N2 K2 => ?_)
  have f3_0 := Nat.le_trans Z0 K2.1
  have f3_1 := H0.keep K2 nin0
  have f3_2 := H1.keep K2 nin0
  have f3_3 := H2.keep K2 nin0
  have f3_4 := H3.keep K2 nin0
  have f3_5 := H4.keep K2 nin0
  have f3_6 := H5.keep K2 nin0
  have f3_7 := (Keep.refl h0 [io]).trans K2 all0
  refine own_pC0 pk ce io ko fo off (0 : Int32) g bb (f_min g (n - (0 : Int32))) y2 (own_sum f md (0 : Int32) (f_min g (n - (0 : Int32)))) (own_BT off bb (((0 : Int32) / g)).toInt64) hx hw hby hml hZ hown X2 e2 N2 f3_0 f3_2 f3_3 f3_6 g_io ne_pk_io hg0 rfl hRB0 (fun T4 h4 L4 y4 X4 e4 N4 K4 V4 => ?_)
  have f5_0 := Nat.le_trans f3_0 K4.1
  have f5_1 := f3_1.keep K4 (ninS ne_pk_io nin0)
  have f5_2 := f3_2.keep K4 (ninS ne_pk_io nin0)
  have f5_3 := f3_3.keep K4 (ninS ne_pk_io nin0)
  have f5_4 := f3_4.keep K4 (ninS ne_ce_io nin0)
  have f5_5 := f3_5.keep K4 (ninS ne_pw_io nin0)
  have f5_7 := f3_7.trans K4 (allS (Or.inl (List.mem_of_getElem? (i := 0) rfl)) all0)
  refine Wp.back (U' := (T4.setTop (mkF m 172 #[.val (.ref pk), .val (.ref ce), .val (.ref io), .val (.int off), .val (.int 0), .val (.long (own_sum f md (0 : Int32) (f_min g (n - (0 : Int32))))), .second, .val (.int (f_min g (n - (0 : Int32)))), .val (.long (own_BT off bb (((0 : Int32) / g)).toInt64)), .second, .val (.int (own_by (own_BT off bb (((0 : Int32) / g)).toInt64))), .val (.int (own_ib (own_BT off bb (((0 : Int32) / g)).toInt64))), .val (.long (own_sh (own_sum f md (0 : Int32) (f_min g (n - (0 : Int32)))) (own_BT off bb (((0 : Int32) / g)).toInt64) bb)), .second, .val (.int y4)] [(.ref pk), (.int 0)]))) (fun t k => XS.iload X4.here hx rfl (hb hby d6_169) rfl (XS.aloadN X4.here hx rfl (hb hby d6_171) rfl rfl k)) ?_
  obtain ⟨T6, X6, e6, st6⟩ := getF X4 hx hZ hown (host := "") (Or.inl (ow hw 19 rfl)) Via.refl e4 f5_2 (g := (mkF m 172 #[.val (.ref pk), .val (.ref ce), .val (.ref io), .val (.int off), .val (.int 0), .val (.long (own_sum f md (0 : Int32) (f_min g (n - (0 : Int32))))), .second, .val (.int (f_min g (n - (0 : Int32)))), .val (.long (own_BT off bb (((0 : Int32) / g)).toInt64)), .second, .val (.int (own_by (own_BT off bb (((0 : Int32) / g)).toInt64))), .val (.int (own_ib (own_BT off bb (((0 : Int32) / g)).toInt64))), .val (.long (own_sh (own_sum f md (0 : Int32) (f_min g (n - (0 : Int32)))) (own_BT off bb (((0 : Int32) / g)).toInt64) bb)), .second, .val (.int y4)] [(.ref pk), (.int 0)])) rfl rfl (hb hby d6_172)
  refine Wp.back (U' := (T6.setTop (mkF m 175 #[.val (.ref pk), .val (.ref ce), .val (.ref io), .val (.int off), .val (.int 0), .val (.long (own_sum f md (0 : Int32) (f_min g (n - (0 : Int32))))), .second, .val (.int (f_min g (n - (0 : Int32)))), .val (.long (own_BT off bb (((0 : Int32) / g)).toInt64)), .second, .val (.int (own_by (own_BT off bb (((0 : Int32) / g)).toInt64))), .val (.int (own_ib (own_BT off bb (((0 : Int32) / g)).toInt64))), .val (.long (own_sh (own_sum f md (0 : Int32) (f_min g (n - (0 : Int32)))) (own_BT off bb (((0 : Int32) / g)).toInt64) bb)), .second, .val (.int y4)] [(.int g), (.int 0)]))) st6 ?_
  refine Wp.back (U' := (T6.setTop (mkF m 6 #[.val (.ref pk), .val (.ref ce), .val (.ref io), .val (.int off), .val (.int ((0 : Int32) + g)), .val (.long (own_sum f md (0 : Int32) (f_min g (n - (0 : Int32))))), .second, .val (.int (f_min g (n - (0 : Int32)))), .val (.long (own_BT off bb (((0 : Int32) / g)).toInt64)), .second, .val (.int (own_by (own_BT off bb (((0 : Int32) / g)).toInt64))), .val (.int (own_ib (own_BT off bb (((0 : Int32) / g)).toInt64))), .val (.long (own_sh (own_sum f md (0 : Int32) (f_min g (n - (0 : Int32)))) (own_BT off bb (((0 : Int32) / g)).toInt64) bb)), .second, .val (.int y4)] [(.ref ce), (.int ((0 : Int32) + g))]))) (fun t k => XS.iadd X6.here hx rfl (hb hby d6_175) rfl (XS.istore X6.here hx rfl (hb hby d6_176) rfl (l' := #[.val (.ref pk), .val (.ref ce), .val (.ref io), .val (.int off), .val (.int ((0 : Int32) + g)), .val (.long (own_sum f md (0 : Int32) (f_min g (n - (0 : Int32))))), .second, .val (.int (f_min g (n - (0 : Int32)))), .val (.long (own_BT off bb (((0 : Int32) / g)).toInt64)), .second, .val (.int (own_by (own_BT off bb (((0 : Int32) / g)).toInt64))), .val (.int (own_ib (own_BT off bb (((0 : Int32) / g)).toInt64))), .val (.long (own_sh (own_sum f md (0 : Int32) (f_min g (n - (0 : Int32)))) (own_BT off bb (((0 : Int32) / g)).toInt64) bb)), .second, .val (.int y4)]) rfl (XS.goto X6.here hx rfl (pc0 := 178) (pc' := 3) rfl (hb hby d6_178) (by decide) (by decide) (XS.iload X6.here hx rfl (hb hby d6_3) rfl (XS.aloadN X6.here hx rfl (hb hby d6_5) rfl rfl k))))) ?_
  have vq7 := f5_4
  obtain ⟨cl7, Ar7, -, qs7, qn7, -, -⟩ := vq7
  refine Wp.back (U' := (T6.setTop (mkF m 7 #[.val (.ref pk), .val (.ref ce), .val (.ref io), .val (.int off), .val (.int ((0 : Int32) + g)), .val (.long (own_sum f md (0 : Int32) (f_min g (n - (0 : Int32))))), .second, .val (.int (f_min g (n - (0 : Int32)))), .val (.long (own_BT off bb (((0 : Int32) / g)).toInt64)), .second, .val (.int (own_by (own_BT off bb (((0 : Int32) / g)).toInt64))), .val (.int (own_ib (own_BT off bb (((0 : Int32) / g)).toInt64))), .val (.long (own_sh (own_sum f md (0 : Int32) (f_min g (n - (0 : Int32)))) (own_BT off bb (((0 : Int32) / g)).toInt64) bb)), .second, .val (.int y4)] [(.int n), (.int ((0 : Int32) + g))]))) (fun t k => X6.arraylength hx (by rw [e6]; exact Ar7.1) (State.isArrayOf_alike hZ.alike Ar7.2.1) (g := (mkF m 6 #[.val (.ref pk), .val (.ref ce), .val (.ref io), .val (.int off), .val (.int ((0 : Int32) + g)), .val (.long (own_sum f md (0 : Int32) (f_min g (n - (0 : Int32))))), .second, .val (.int (f_min g (n - (0 : Int32)))), .val (.long (own_BT off bb (((0 : Int32) / g)).toInt64)), .second, .val (.int (own_by (own_BT off bb (((0 : Int32) / g)).toInt64))), .val (.int (own_ib (own_BT off bb (((0 : Int32) / g)).toInt64))), .val (.long (own_sh (own_sum f md (0 : Int32) (f_min g (n - (0 : Int32)))) (own_BT off bb (((0 : Int32) / g)).toInt64) bb)), .second, .val (.int y4)] [(.ref ce), (.int ((0 : Int32) + g))])) rfl rfl (hb hby d6_6) t (by rw [len_of qs7 qn7]; exact k)) ?_
  refine Wp.back (U' := (T6.setTop (mkF m 10 #[.val (.ref pk), .val (.ref ce), .val (.ref io), .val (.int off), .val (.int ((0 : Int32) + g)), .val (.long (own_sum f md (0 : Int32) (f_min g (n - (0 : Int32))))), .second, .val (.int (f_min g (n - (0 : Int32)))), .val (.long (own_BT off bb (((0 : Int32) / g)).toInt64)), .second, .val (.int (own_by (own_BT off bb (((0 : Int32) / g)).toInt64))), .val (.int (own_ib (own_BT off bb (((0 : Int32) / g)).toInt64))), .val (.long (own_sh (own_sum f md (0 : Int32) (f_min g (n - (0 : Int32)))) (own_BT off bb (((0 : Int32) / g)).toInt64) bb)), .second, .val (.int y4)] []))) (fun t k => XS.icmpNo X6.here hx rfl (hb hby d6_7) rfl (tlt hl1).2.1 k) ?_
  refine own_pA1 pk ce io pw kc kp f off ((0 : Int32) + g) g n md (own_sum f md (0 : Int32) (f_min g (n - (0 : Int32)))) (f_min g (n - (0 : Int32))) (own_BT off bb (((0 : Int32) / g)).toInt64) (own_by (own_BT off bb (((0 : Int32) / g)).toInt64)) (own_ib (own_BT off bb (((0 : Int32) / g)).toInt64)) (own_sh (own_sum f md (0 : Int32) (f_min g (n - (0 : Int32)))) (own_BT off bb (((0 : Int32) / g)).toInt64) bb) y4 hx hw hby hml hZ hown X6 e6 N4 f5_0 f5_2 f5_1 f5_4 f5_5 hRA1 (fun T8 h8 L8 y8 X8 e8 N8 K8 => ?_)
  have f9_0 := Nat.le_trans f5_0 K8.1
  have f9_1 := f5_1.keep K8 nin0
  have f9_2 := f5_2.keep K8 nin0
  have f9_3 := f5_3.keep K8 nin0
  have f9_4 := f5_4.keep K8 nin0
  have f9_5 := f5_5.keep K8 nin0
  have f9_6 := f5_7.trans K8 all0
  have f9_7 := V4.keep K8 nin0
  refine own_pC1 pk ce io ko (own_turn fo (own_sum f md (0 : Int32) (f_min g (n - (0 : Int32)))) (own_BT off bb (((0 : Int32) / g)).toInt64) bb) off ((0 : Int32) + g) g bb (f_min g (n - ((0 : Int32) + g))) y8 (own_sum f md ((0 : Int32) + g) (f_min g (n - ((0 : Int32) + g)))) (own_BT off bb ((((0 : Int32) + g) / g)).toInt64) (own_by (own_BT off bb (((0 : Int32) / g)).toInt64)) (own_ib (own_BT off bb (((0 : Int32) / g)).toInt64)) (own_sh (own_sum f md (0 : Int32) (f_min g (n - (0 : Int32)))) (own_BT off bb (((0 : Int32) / g)).toInt64) bb) y4 hx hw hby hml hZ hown X8 e8 N8 f9_0 f9_2 f9_3 f9_7 g_io ne_pk_io hg0 rfl hRB1 (fun T10 h10 L10 y10 X10 e10 N10 K10 V10 => ?_)
  have f11_0 := Nat.le_trans f9_0 K10.1
  have f11_1 := f9_1.keep K10 (ninS ne_pk_io nin0)
  have f11_2 := f9_2.keep K10 (ninS ne_pk_io nin0)
  have f11_3 := f9_3.keep K10 (ninS ne_pk_io nin0)
  have f11_4 := f9_4.keep K10 (ninS ne_ce_io nin0)
  have f11_5 := f9_5.keep K10 (ninS ne_pw_io nin0)
  have f11_6 := f9_6.trans K10 (allS (Or.inl (List.mem_of_getElem? (i := 0) rfl)) all0)
  refine Wp.back (U' := (T10.setTop (mkF m 172 #[.val (.ref pk), .val (.ref ce), .val (.ref io), .val (.int off), .val (.int ((0 : Int32) + g)), .val (.long (own_sum f md ((0 : Int32) + g) (f_min g (n - ((0 : Int32) + g))))), .second, .val (.int (f_min g (n - ((0 : Int32) + g)))), .val (.long (own_BT off bb ((((0 : Int32) + g) / g)).toInt64)), .second, .val (.int (own_by (own_BT off bb ((((0 : Int32) + g) / g)).toInt64))), .val (.int (own_ib (own_BT off bb ((((0 : Int32) + g) / g)).toInt64))), .val (.long (own_sh (own_sum f md ((0 : Int32) + g) (f_min g (n - ((0 : Int32) + g)))) (own_BT off bb ((((0 : Int32) + g) / g)).toInt64) bb)), .second, .val (.int y10)] [(.ref pk), (.int ((0 : Int32) + g))]))) (fun t k => XS.iload X10.here hx rfl (hb hby d6_169) rfl (XS.aloadN X10.here hx rfl (hb hby d6_171) rfl rfl k)) ?_
  obtain ⟨T12, X12, e12, st12⟩ := getF X10 hx hZ hown (host := "") (Or.inl (ow hw 19 rfl)) Via.refl e10 f11_2 (g := (mkF m 172 #[.val (.ref pk), .val (.ref ce), .val (.ref io), .val (.int off), .val (.int ((0 : Int32) + g)), .val (.long (own_sum f md ((0 : Int32) + g) (f_min g (n - ((0 : Int32) + g))))), .second, .val (.int (f_min g (n - ((0 : Int32) + g)))), .val (.long (own_BT off bb ((((0 : Int32) + g) / g)).toInt64)), .second, .val (.int (own_by (own_BT off bb ((((0 : Int32) + g) / g)).toInt64))), .val (.int (own_ib (own_BT off bb ((((0 : Int32) + g) / g)).toInt64))), .val (.long (own_sh (own_sum f md ((0 : Int32) + g) (f_min g (n - ((0 : Int32) + g)))) (own_BT off bb ((((0 : Int32) + g) / g)).toInt64) bb)), .second, .val (.int y10)] [(.ref pk), (.int ((0 : Int32) + g))])) rfl rfl (hb hby d6_172)
  refine Wp.back (U' := (T12.setTop (mkF m 175 #[.val (.ref pk), .val (.ref ce), .val (.ref io), .val (.int off), .val (.int ((0 : Int32) + g)), .val (.long (own_sum f md ((0 : Int32) + g) (f_min g (n - ((0 : Int32) + g))))), .second, .val (.int (f_min g (n - ((0 : Int32) + g)))), .val (.long (own_BT off bb ((((0 : Int32) + g) / g)).toInt64)), .second, .val (.int (own_by (own_BT off bb ((((0 : Int32) + g) / g)).toInt64))), .val (.int (own_ib (own_BT off bb ((((0 : Int32) + g) / g)).toInt64))), .val (.long (own_sh (own_sum f md ((0 : Int32) + g) (f_min g (n - ((0 : Int32) + g)))) (own_BT off bb ((((0 : Int32) + g) / g)).toInt64) bb)), .second, .val (.int y10)] [(.int g), (.int ((0 : Int32) + g))]))) st12 ?_
  refine Wp.back (U' := (T12.setTop (mkF m 6 #[.val (.ref pk), .val (.ref ce), .val (.ref io), .val (.int off), .val (.int (((0 : Int32) + g) + g)), .val (.long (own_sum f md ((0 : Int32) + g) (f_min g (n - ((0 : Int32) + g))))), .second, .val (.int (f_min g (n - ((0 : Int32) + g)))), .val (.long (own_BT off bb ((((0 : Int32) + g) / g)).toInt64)), .second, .val (.int (own_by (own_BT off bb ((((0 : Int32) + g) / g)).toInt64))), .val (.int (own_ib (own_BT off bb ((((0 : Int32) + g) / g)).toInt64))), .val (.long (own_sh (own_sum f md ((0 : Int32) + g) (f_min g (n - ((0 : Int32) + g)))) (own_BT off bb ((((0 : Int32) + g) / g)).toInt64) bb)), .second, .val (.int y10)] [(.ref ce), (.int (((0 : Int32) + g) + g))]))) (fun t k => XS.iadd X12.here hx rfl (hb hby d6_175) rfl (XS.istore X12.here hx rfl (hb hby d6_176) rfl (l' := #[.val (.ref pk), .val (.ref ce), .val (.ref io), .val (.int off), .val (.int (((0 : Int32) + g) + g)), .val (.long (own_sum f md ((0 : Int32) + g) (f_min g (n - ((0 : Int32) + g))))), .second, .val (.int (f_min g (n - ((0 : Int32) + g)))), .val (.long (own_BT off bb ((((0 : Int32) + g) / g)).toInt64)), .second, .val (.int (own_by (own_BT off bb ((((0 : Int32) + g) / g)).toInt64))), .val (.int (own_ib (own_BT off bb ((((0 : Int32) + g) / g)).toInt64))), .val (.long (own_sh (own_sum f md ((0 : Int32) + g) (f_min g (n - ((0 : Int32) + g)))) (own_BT off bb ((((0 : Int32) + g) / g)).toInt64) bb)), .second, .val (.int y10)]) rfl (XS.goto X12.here hx rfl (pc0 := 178) (pc' := 3) rfl (hb hby d6_178) (by decide) (by decide) (XS.iload X12.here hx rfl (hb hby d6_3) rfl (XS.aloadN X12.here hx rfl (hb hby d6_5) rfl rfl k))))) ?_
  have vq13 := f11_4
  obtain ⟨cl13, Ar13, -, qs13, qn13, -, -⟩ := vq13
  refine Wp.back (U' := (T12.setTop (mkF m 7 #[.val (.ref pk), .val (.ref ce), .val (.ref io), .val (.int off), .val (.int (((0 : Int32) + g) + g)), .val (.long (own_sum f md ((0 : Int32) + g) (f_min g (n - ((0 : Int32) + g))))), .second, .val (.int (f_min g (n - ((0 : Int32) + g)))), .val (.long (own_BT off bb ((((0 : Int32) + g) / g)).toInt64)), .second, .val (.int (own_by (own_BT off bb ((((0 : Int32) + g) / g)).toInt64))), .val (.int (own_ib (own_BT off bb ((((0 : Int32) + g) / g)).toInt64))), .val (.long (own_sh (own_sum f md ((0 : Int32) + g) (f_min g (n - ((0 : Int32) + g)))) (own_BT off bb ((((0 : Int32) + g) / g)).toInt64) bb)), .second, .val (.int y10)] [(.int n), (.int (((0 : Int32) + g) + g))]))) (fun t k => X12.arraylength hx (by rw [e12]; exact Ar13.1) (State.isArrayOf_alike hZ.alike Ar13.2.1) (g := (mkF m 6 #[.val (.ref pk), .val (.ref ce), .val (.ref io), .val (.int off), .val (.int (((0 : Int32) + g) + g)), .val (.long (own_sum f md ((0 : Int32) + g) (f_min g (n - ((0 : Int32) + g))))), .second, .val (.int (f_min g (n - ((0 : Int32) + g)))), .val (.long (own_BT off bb ((((0 : Int32) + g) / g)).toInt64)), .second, .val (.int (own_by (own_BT off bb ((((0 : Int32) + g) / g)).toInt64))), .val (.int (own_ib (own_BT off bb ((((0 : Int32) + g) / g)).toInt64))), .val (.long (own_sh (own_sum f md ((0 : Int32) + g) (f_min g (n - ((0 : Int32) + g)))) (own_BT off bb ((((0 : Int32) + g) / g)).toInt64) bb)), .second, .val (.int y10)] [(.ref ce), (.int (((0 : Int32) + g) + g))])) rfl rfl (hb hby d6_6) t (by rw [len_of qs13 qn13]; exact k)) ?_
  refine Wp.back (U' := (T12.setTop (mkF m 10 #[.val (.ref pk), .val (.ref ce), .val (.ref io), .val (.int off), .val (.int (((0 : Int32) + g) + g)), .val (.long (own_sum f md ((0 : Int32) + g) (f_min g (n - ((0 : Int32) + g))))), .second, .val (.int (f_min g (n - ((0 : Int32) + g)))), .val (.long (own_BT off bb ((((0 : Int32) + g) / g)).toInt64)), .second, .val (.int (own_by (own_BT off bb ((((0 : Int32) + g) / g)).toInt64))), .val (.int (own_ib (own_BT off bb ((((0 : Int32) + g) / g)).toInt64))), .val (.long (own_sh (own_sum f md ((0 : Int32) + g) (f_min g (n - ((0 : Int32) + g)))) (own_BT off bb ((((0 : Int32) + g) / g)).toInt64) bb)), .second, .val (.int y10)] []))) (fun t k => XS.icmpNo X12.here hx rfl (hb hby d6_7) rfl (tlt hl2).2.1 k) ?_
  refine own_pA1 pk ce io pw kc kp f off (((0 : Int32) + g) + g) g n md (own_sum f md ((0 : Int32) + g) (f_min g (n - ((0 : Int32) + g)))) (f_min g (n - ((0 : Int32) + g))) (own_BT off bb ((((0 : Int32) + g) / g)).toInt64) (own_by (own_BT off bb ((((0 : Int32) + g) / g)).toInt64)) (own_ib (own_BT off bb ((((0 : Int32) + g) / g)).toInt64)) (own_sh (own_sum f md ((0 : Int32) + g) (f_min g (n - ((0 : Int32) + g)))) (own_BT off bb ((((0 : Int32) + g) / g)).toInt64) bb) y10 hx hw hby hml hZ hown X12 e12 N10 f11_0 f11_2 f11_1 f11_4 f11_5 hRA2 (fun T14 h14 L14 y14 X14 e14 N14 K14 => ?_)
  have f15_0 := Nat.le_trans f11_0 K14.1
  have f15_1 := f11_1.keep K14 nin0
  have f15_2 := f11_2.keep K14 nin0
  have f15_3 := f11_3.keep K14 nin0
  have f15_4 := f11_4.keep K14 nin0
  have f15_5 := f11_5.keep K14 nin0
  have f15_6 := f11_6.trans K14 all0
  have f15_7 := V10.keep K14 nin0
  refine own_pC1 pk ce io ko (own_turn (own_turn fo (own_sum f md (0 : Int32) (f_min g (n - (0 : Int32)))) (own_BT off bb (((0 : Int32) / g)).toInt64) bb) (own_sum f md ((0 : Int32) + g) (f_min g (n - ((0 : Int32) + g)))) (own_BT off bb ((((0 : Int32) + g) / g)).toInt64) bb) off (((0 : Int32) + g) + g) g bb (f_min g (n - (((0 : Int32) + g) + g))) y14 (own_sum f md (((0 : Int32) + g) + g) (f_min g (n - (((0 : Int32) + g) + g)))) (own_BT off bb (((((0 : Int32) + g) + g) / g)).toInt64) (own_by (own_BT off bb ((((0 : Int32) + g) / g)).toInt64)) (own_ib (own_BT off bb ((((0 : Int32) + g) / g)).toInt64)) (own_sh (own_sum f md ((0 : Int32) + g) (f_min g (n - ((0 : Int32) + g)))) (own_BT off bb ((((0 : Int32) + g) / g)).toInt64) bb) y10 hx hw hby hml hZ hown X14 e14 N14 f15_0 f15_2 f15_3 f15_7 g_io ne_pk_io hg0 rfl hRB2 (fun T16 h16 L16 y16 X16 e16 N16 K16 V16 => ?_)
  have f17_0 := Nat.le_trans f15_0 K16.1
  have f17_1 := f15_1.keep K16 (ninS ne_pk_io nin0)
  have f17_2 := f15_2.keep K16 (ninS ne_pk_io nin0)
  have f17_3 := f15_3.keep K16 (ninS ne_pk_io nin0)
  have f17_4 := f15_4.keep K16 (ninS ne_ce_io nin0)
  have f17_5 := f15_5.keep K16 (ninS ne_pw_io nin0)
  have f17_6 := f15_6.trans K16 (allS (Or.inl (List.mem_of_getElem? (i := 0) rfl)) all0)
  refine Wp.back (U' := (T16.setTop (mkF m 172 #[.val (.ref pk), .val (.ref ce), .val (.ref io), .val (.int off), .val (.int (((0 : Int32) + g) + g)), .val (.long (own_sum f md (((0 : Int32) + g) + g) (f_min g (n - (((0 : Int32) + g) + g))))), .second, .val (.int (f_min g (n - (((0 : Int32) + g) + g)))), .val (.long (own_BT off bb (((((0 : Int32) + g) + g) / g)).toInt64)), .second, .val (.int (own_by (own_BT off bb (((((0 : Int32) + g) + g) / g)).toInt64))), .val (.int (own_ib (own_BT off bb (((((0 : Int32) + g) + g) / g)).toInt64))), .val (.long (own_sh (own_sum f md (((0 : Int32) + g) + g) (f_min g (n - (((0 : Int32) + g) + g)))) (own_BT off bb (((((0 : Int32) + g) + g) / g)).toInt64) bb)), .second, .val (.int y16)] [(.ref pk), (.int (((0 : Int32) + g) + g))]))) (fun t k => XS.iload X16.here hx rfl (hb hby d6_169) rfl (XS.aloadN X16.here hx rfl (hb hby d6_171) rfl rfl k)) ?_
  obtain ⟨T18, X18, e18, st18⟩ := getF X16 hx hZ hown (host := "") (Or.inl (ow hw 19 rfl)) Via.refl e16 f17_2 (g := (mkF m 172 #[.val (.ref pk), .val (.ref ce), .val (.ref io), .val (.int off), .val (.int (((0 : Int32) + g) + g)), .val (.long (own_sum f md (((0 : Int32) + g) + g) (f_min g (n - (((0 : Int32) + g) + g))))), .second, .val (.int (f_min g (n - (((0 : Int32) + g) + g)))), .val (.long (own_BT off bb (((((0 : Int32) + g) + g) / g)).toInt64)), .second, .val (.int (own_by (own_BT off bb (((((0 : Int32) + g) + g) / g)).toInt64))), .val (.int (own_ib (own_BT off bb (((((0 : Int32) + g) + g) / g)).toInt64))), .val (.long (own_sh (own_sum f md (((0 : Int32) + g) + g) (f_min g (n - (((0 : Int32) + g) + g)))) (own_BT off bb (((((0 : Int32) + g) + g) / g)).toInt64) bb)), .second, .val (.int y16)] [(.ref pk), (.int (((0 : Int32) + g) + g))])) rfl rfl (hb hby d6_172)
  refine Wp.back (U' := (T18.setTop (mkF m 175 #[.val (.ref pk), .val (.ref ce), .val (.ref io), .val (.int off), .val (.int (((0 : Int32) + g) + g)), .val (.long (own_sum f md (((0 : Int32) + g) + g) (f_min g (n - (((0 : Int32) + g) + g))))), .second, .val (.int (f_min g (n - (((0 : Int32) + g) + g)))), .val (.long (own_BT off bb (((((0 : Int32) + g) + g) / g)).toInt64)), .second, .val (.int (own_by (own_BT off bb (((((0 : Int32) + g) + g) / g)).toInt64))), .val (.int (own_ib (own_BT off bb (((((0 : Int32) + g) + g) / g)).toInt64))), .val (.long (own_sh (own_sum f md (((0 : Int32) + g) + g) (f_min g (n - (((0 : Int32) + g) + g)))) (own_BT off bb (((((0 : Int32) + g) + g) / g)).toInt64) bb)), .second, .val (.int y16)] [(.int g), (.int (((0 : Int32) + g) + g))]))) st18 ?_
  refine Wp.back (U' := (T18.setTop (mkF m 6 #[.val (.ref pk), .val (.ref ce), .val (.ref io), .val (.int off), .val (.int ((((0 : Int32) + g) + g) + g)), .val (.long (own_sum f md (((0 : Int32) + g) + g) (f_min g (n - (((0 : Int32) + g) + g))))), .second, .val (.int (f_min g (n - (((0 : Int32) + g) + g)))), .val (.long (own_BT off bb (((((0 : Int32) + g) + g) / g)).toInt64)), .second, .val (.int (own_by (own_BT off bb (((((0 : Int32) + g) + g) / g)).toInt64))), .val (.int (own_ib (own_BT off bb (((((0 : Int32) + g) + g) / g)).toInt64))), .val (.long (own_sh (own_sum f md (((0 : Int32) + g) + g) (f_min g (n - (((0 : Int32) + g) + g)))) (own_BT off bb (((((0 : Int32) + g) + g) / g)).toInt64) bb)), .second, .val (.int y16)] [(.ref ce), (.int ((((0 : Int32) + g) + g) + g))]))) (fun t k => XS.iadd X18.here hx rfl (hb hby d6_175) rfl (XS.istore X18.here hx rfl (hb hby d6_176) rfl (l' := #[.val (.ref pk), .val (.ref ce), .val (.ref io), .val (.int off), .val (.int ((((0 : Int32) + g) + g) + g)), .val (.long (own_sum f md (((0 : Int32) + g) + g) (f_min g (n - (((0 : Int32) + g) + g))))), .second, .val (.int (f_min g (n - (((0 : Int32) + g) + g)))), .val (.long (own_BT off bb (((((0 : Int32) + g) + g) / g)).toInt64)), .second, .val (.int (own_by (own_BT off bb (((((0 : Int32) + g) + g) / g)).toInt64))), .val (.int (own_ib (own_BT off bb (((((0 : Int32) + g) + g) / g)).toInt64))), .val (.long (own_sh (own_sum f md (((0 : Int32) + g) + g) (f_min g (n - (((0 : Int32) + g) + g)))) (own_BT off bb (((((0 : Int32) + g) + g) / g)).toInt64) bb)), .second, .val (.int y16)]) rfl (XS.goto X18.here hx rfl (pc0 := 178) (pc' := 3) rfl (hb hby d6_178) (by decide) (by decide) (XS.iload X18.here hx rfl (hb hby d6_3) rfl (XS.aloadN X18.here hx rfl (hb hby d6_5) rfl rfl k))))) ?_
  have vq19 := f17_4
  obtain ⟨cl19, Ar19, -, qs19, qn19, -, -⟩ := vq19
  refine Wp.back (U' := (T18.setTop (mkF m 7 #[.val (.ref pk), .val (.ref ce), .val (.ref io), .val (.int off), .val (.int ((((0 : Int32) + g) + g) + g)), .val (.long (own_sum f md (((0 : Int32) + g) + g) (f_min g (n - (((0 : Int32) + g) + g))))), .second, .val (.int (f_min g (n - (((0 : Int32) + g) + g)))), .val (.long (own_BT off bb (((((0 : Int32) + g) + g) / g)).toInt64)), .second, .val (.int (own_by (own_BT off bb (((((0 : Int32) + g) + g) / g)).toInt64))), .val (.int (own_ib (own_BT off bb (((((0 : Int32) + g) + g) / g)).toInt64))), .val (.long (own_sh (own_sum f md (((0 : Int32) + g) + g) (f_min g (n - (((0 : Int32) + g) + g)))) (own_BT off bb (((((0 : Int32) + g) + g) / g)).toInt64) bb)), .second, .val (.int y16)] [(.int n), (.int ((((0 : Int32) + g) + g) + g))]))) (fun t k => X18.arraylength hx (by rw [e18]; exact Ar19.1) (State.isArrayOf_alike hZ.alike Ar19.2.1) (g := (mkF m 6 #[.val (.ref pk), .val (.ref ce), .val (.ref io), .val (.int off), .val (.int ((((0 : Int32) + g) + g) + g)), .val (.long (own_sum f md (((0 : Int32) + g) + g) (f_min g (n - (((0 : Int32) + g) + g))))), .second, .val (.int (f_min g (n - (((0 : Int32) + g) + g)))), .val (.long (own_BT off bb (((((0 : Int32) + g) + g) / g)).toInt64)), .second, .val (.int (own_by (own_BT off bb (((((0 : Int32) + g) + g) / g)).toInt64))), .val (.int (own_ib (own_BT off bb (((((0 : Int32) + g) + g) / g)).toInt64))), .val (.long (own_sh (own_sum f md (((0 : Int32) + g) + g) (f_min g (n - (((0 : Int32) + g) + g)))) (own_BT off bb (((((0 : Int32) + g) + g) / g)).toInt64) bb)), .second, .val (.int y16)] [(.ref ce), (.int ((((0 : Int32) + g) + g) + g))])) rfl rfl (hb hby d6_6) t (by rw [len_of qs19 qn19]; exact k)) ?_
  refine Wp.back (U' := (T18.setTop (mkF m 10 #[.val (.ref pk), .val (.ref ce), .val (.ref io), .val (.int off), .val (.int ((((0 : Int32) + g) + g) + g)), .val (.long (own_sum f md (((0 : Int32) + g) + g) (f_min g (n - (((0 : Int32) + g) + g))))), .second, .val (.int (f_min g (n - (((0 : Int32) + g) + g)))), .val (.long (own_BT off bb (((((0 : Int32) + g) + g) / g)).toInt64)), .second, .val (.int (own_by (own_BT off bb (((((0 : Int32) + g) + g) / g)).toInt64))), .val (.int (own_ib (own_BT off bb (((((0 : Int32) + g) + g) / g)).toInt64))), .val (.long (own_sh (own_sum f md (((0 : Int32) + g) + g) (f_min g (n - (((0 : Int32) + g) + g)))) (own_BT off bb (((((0 : Int32) + g) + g) / g)).toInt64) bb)), .second, .val (.int y16)] []))) (fun t k => XS.icmpNo X18.here hx rfl (hb hby d6_7) rfl (tlt hl3).2.1 k) ?_
  refine own_pA1 pk ce io pw kc kp f off ((((0 : Int32) + g) + g) + g) g n md (own_sum f md (((0 : Int32) + g) + g) (f_min g (n - (((0 : Int32) + g) + g)))) (f_min g (n - (((0 : Int32) + g) + g))) (own_BT off bb (((((0 : Int32) + g) + g) / g)).toInt64) (own_by (own_BT off bb (((((0 : Int32) + g) + g) / g)).toInt64)) (own_ib (own_BT off bb (((((0 : Int32) + g) + g) / g)).toInt64)) (own_sh (own_sum f md (((0 : Int32) + g) + g) (f_min g (n - (((0 : Int32) + g) + g)))) (own_BT off bb (((((0 : Int32) + g) + g) / g)).toInt64) bb) y16 hx hw hby hml hZ hown X18 e18 N16 f17_0 f17_2 f17_1 f17_4 f17_5 hRA3 (fun T20 h20 L20 y20 X20 e20 N20 K20 => ?_)
  have f21_0 := Nat.le_trans f17_0 K20.1
  have f21_1 := f17_1.keep K20 nin0
  have f21_2 := f17_2.keep K20 nin0
  have f21_3 := f17_3.keep K20 nin0
  have f21_4 := f17_4.keep K20 nin0
  have f21_5 := f17_5.keep K20 nin0
  have f21_6 := f17_6.trans K20 all0
  have f21_7 := V16.keep K20 nin0
  refine own_pC1 pk ce io ko (own_turn (own_turn (own_turn fo (own_sum f md (0 : Int32) (f_min g (n - (0 : Int32)))) (own_BT off bb (((0 : Int32) / g)).toInt64) bb) (own_sum f md ((0 : Int32) + g) (f_min g (n - ((0 : Int32) + g)))) (own_BT off bb ((((0 : Int32) + g) / g)).toInt64) bb) (own_sum f md (((0 : Int32) + g) + g) (f_min g (n - (((0 : Int32) + g) + g)))) (own_BT off bb (((((0 : Int32) + g) + g) / g)).toInt64) bb) off ((((0 : Int32) + g) + g) + g) g bb (f_min g (n - ((((0 : Int32) + g) + g) + g))) y20 (own_sum f md ((((0 : Int32) + g) + g) + g) (f_min g (n - ((((0 : Int32) + g) + g) + g)))) (own_BT off bb ((((((0 : Int32) + g) + g) + g) / g)).toInt64) (own_by (own_BT off bb (((((0 : Int32) + g) + g) / g)).toInt64)) (own_ib (own_BT off bb (((((0 : Int32) + g) + g) / g)).toInt64)) (own_sh (own_sum f md (((0 : Int32) + g) + g) (f_min g (n - (((0 : Int32) + g) + g)))) (own_BT off bb (((((0 : Int32) + g) + g) / g)).toInt64) bb) y16 hx hw hby hml hZ hown X20 e20 N20 f21_0 f21_2 f21_3 f21_7 g_io ne_pk_io hg0 rfl hRB3 (fun T22 h22 L22 y22 X22 e22 N22 K22 V22 => ?_)
  have f23_0 := Nat.le_trans f21_0 K22.1
  have f23_1 := f21_1.keep K22 (ninS ne_pk_io nin0)
  have f23_2 := f21_2.keep K22 (ninS ne_pk_io nin0)
  have f23_3 := f21_3.keep K22 (ninS ne_pk_io nin0)
  have f23_4 := f21_4.keep K22 (ninS ne_ce_io nin0)
  have f23_5 := f21_5.keep K22 (ninS ne_pw_io nin0)
  have f23_6 := f21_6.trans K22 (allS (Or.inl (List.mem_of_getElem? (i := 0) rfl)) all0)
  refine Wp.back (U' := (T22.setTop (mkF m 172 #[.val (.ref pk), .val (.ref ce), .val (.ref io), .val (.int off), .val (.int ((((0 : Int32) + g) + g) + g)), .val (.long (own_sum f md ((((0 : Int32) + g) + g) + g) (f_min g (n - ((((0 : Int32) + g) + g) + g))))), .second, .val (.int (f_min g (n - ((((0 : Int32) + g) + g) + g)))), .val (.long (own_BT off bb ((((((0 : Int32) + g) + g) + g) / g)).toInt64)), .second, .val (.int (own_by (own_BT off bb ((((((0 : Int32) + g) + g) + g) / g)).toInt64))), .val (.int (own_ib (own_BT off bb ((((((0 : Int32) + g) + g) + g) / g)).toInt64))), .val (.long (own_sh (own_sum f md ((((0 : Int32) + g) + g) + g) (f_min g (n - ((((0 : Int32) + g) + g) + g)))) (own_BT off bb ((((((0 : Int32) + g) + g) + g) / g)).toInt64) bb)), .second, .val (.int y22)] [(.ref pk), (.int ((((0 : Int32) + g) + g) + g))]))) (fun t k => XS.iload X22.here hx rfl (hb hby d6_169) rfl (XS.aloadN X22.here hx rfl (hb hby d6_171) rfl rfl k)) ?_
  obtain ⟨T24, X24, e24, st24⟩ := getF X22 hx hZ hown (host := "") (Or.inl (ow hw 19 rfl)) Via.refl e22 f23_2 (g := (mkF m 172 #[.val (.ref pk), .val (.ref ce), .val (.ref io), .val (.int off), .val (.int ((((0 : Int32) + g) + g) + g)), .val (.long (own_sum f md ((((0 : Int32) + g) + g) + g) (f_min g (n - ((((0 : Int32) + g) + g) + g))))), .second, .val (.int (f_min g (n - ((((0 : Int32) + g) + g) + g)))), .val (.long (own_BT off bb ((((((0 : Int32) + g) + g) + g) / g)).toInt64)), .second, .val (.int (own_by (own_BT off bb ((((((0 : Int32) + g) + g) + g) / g)).toInt64))), .val (.int (own_ib (own_BT off bb ((((((0 : Int32) + g) + g) + g) / g)).toInt64))), .val (.long (own_sh (own_sum f md ((((0 : Int32) + g) + g) + g) (f_min g (n - ((((0 : Int32) + g) + g) + g)))) (own_BT off bb ((((((0 : Int32) + g) + g) + g) / g)).toInt64) bb)), .second, .val (.int y22)] [(.ref pk), (.int ((((0 : Int32) + g) + g) + g))])) rfl rfl (hb hby d6_172)
  refine Wp.back (U' := (T24.setTop (mkF m 175 #[.val (.ref pk), .val (.ref ce), .val (.ref io), .val (.int off), .val (.int ((((0 : Int32) + g) + g) + g)), .val (.long (own_sum f md ((((0 : Int32) + g) + g) + g) (f_min g (n - ((((0 : Int32) + g) + g) + g))))), .second, .val (.int (f_min g (n - ((((0 : Int32) + g) + g) + g)))), .val (.long (own_BT off bb ((((((0 : Int32) + g) + g) + g) / g)).toInt64)), .second, .val (.int (own_by (own_BT off bb ((((((0 : Int32) + g) + g) + g) / g)).toInt64))), .val (.int (own_ib (own_BT off bb ((((((0 : Int32) + g) + g) + g) / g)).toInt64))), .val (.long (own_sh (own_sum f md ((((0 : Int32) + g) + g) + g) (f_min g (n - ((((0 : Int32) + g) + g) + g)))) (own_BT off bb ((((((0 : Int32) + g) + g) + g) / g)).toInt64) bb)), .second, .val (.int y22)] [(.int g), (.int ((((0 : Int32) + g) + g) + g))]))) st24 ?_
  refine Wp.back (U' := (T24.setTop (mkF m 6 #[.val (.ref pk), .val (.ref ce), .val (.ref io), .val (.int off), .val (.int (((((0 : Int32) + g) + g) + g) + g)), .val (.long (own_sum f md ((((0 : Int32) + g) + g) + g) (f_min g (n - ((((0 : Int32) + g) + g) + g))))), .second, .val (.int (f_min g (n - ((((0 : Int32) + g) + g) + g)))), .val (.long (own_BT off bb ((((((0 : Int32) + g) + g) + g) / g)).toInt64)), .second, .val (.int (own_by (own_BT off bb ((((((0 : Int32) + g) + g) + g) / g)).toInt64))), .val (.int (own_ib (own_BT off bb ((((((0 : Int32) + g) + g) + g) / g)).toInt64))), .val (.long (own_sh (own_sum f md ((((0 : Int32) + g) + g) + g) (f_min g (n - ((((0 : Int32) + g) + g) + g)))) (own_BT off bb ((((((0 : Int32) + g) + g) + g) / g)).toInt64) bb)), .second, .val (.int y22)] [(.ref ce), (.int (((((0 : Int32) + g) + g) + g) + g))]))) (fun t k => XS.iadd X24.here hx rfl (hb hby d6_175) rfl (XS.istore X24.here hx rfl (hb hby d6_176) rfl (l' := #[.val (.ref pk), .val (.ref ce), .val (.ref io), .val (.int off), .val (.int (((((0 : Int32) + g) + g) + g) + g)), .val (.long (own_sum f md ((((0 : Int32) + g) + g) + g) (f_min g (n - ((((0 : Int32) + g) + g) + g))))), .second, .val (.int (f_min g (n - ((((0 : Int32) + g) + g) + g)))), .val (.long (own_BT off bb ((((((0 : Int32) + g) + g) + g) / g)).toInt64)), .second, .val (.int (own_by (own_BT off bb ((((((0 : Int32) + g) + g) + g) / g)).toInt64))), .val (.int (own_ib (own_BT off bb ((((((0 : Int32) + g) + g) + g) / g)).toInt64))), .val (.long (own_sh (own_sum f md ((((0 : Int32) + g) + g) + g) (f_min g (n - ((((0 : Int32) + g) + g) + g)))) (own_BT off bb ((((((0 : Int32) + g) + g) + g) / g)).toInt64) bb)), .second, .val (.int y22)]) rfl (XS.goto X24.here hx rfl (pc0 := 178) (pc' := 3) rfl (hb hby d6_178) (by decide) (by decide) (XS.iload X24.here hx rfl (hb hby d6_3) rfl (XS.aloadN X24.here hx rfl (hb hby d6_5) rfl rfl k))))) ?_
  have vq25 := f23_4
  obtain ⟨cl25, Ar25, -, qs25, qn25, -, -⟩ := vq25
  refine Wp.back (U' := (T24.setTop (mkF m 7 #[.val (.ref pk), .val (.ref ce), .val (.ref io), .val (.int off), .val (.int (((((0 : Int32) + g) + g) + g) + g)), .val (.long (own_sum f md ((((0 : Int32) + g) + g) + g) (f_min g (n - ((((0 : Int32) + g) + g) + g))))), .second, .val (.int (f_min g (n - ((((0 : Int32) + g) + g) + g)))), .val (.long (own_BT off bb ((((((0 : Int32) + g) + g) + g) / g)).toInt64)), .second, .val (.int (own_by (own_BT off bb ((((((0 : Int32) + g) + g) + g) / g)).toInt64))), .val (.int (own_ib (own_BT off bb ((((((0 : Int32) + g) + g) + g) / g)).toInt64))), .val (.long (own_sh (own_sum f md ((((0 : Int32) + g) + g) + g) (f_min g (n - ((((0 : Int32) + g) + g) + g)))) (own_BT off bb ((((((0 : Int32) + g) + g) + g) / g)).toInt64) bb)), .second, .val (.int y22)] [(.int n), (.int (((((0 : Int32) + g) + g) + g) + g))]))) (fun t k => X24.arraylength hx (by rw [e24]; exact Ar25.1) (State.isArrayOf_alike hZ.alike Ar25.2.1) (g := (mkF m 6 #[.val (.ref pk), .val (.ref ce), .val (.ref io), .val (.int off), .val (.int (((((0 : Int32) + g) + g) + g) + g)), .val (.long (own_sum f md ((((0 : Int32) + g) + g) + g) (f_min g (n - ((((0 : Int32) + g) + g) + g))))), .second, .val (.int (f_min g (n - ((((0 : Int32) + g) + g) + g)))), .val (.long (own_BT off bb ((((((0 : Int32) + g) + g) + g) / g)).toInt64)), .second, .val (.int (own_by (own_BT off bb ((((((0 : Int32) + g) + g) + g) / g)).toInt64))), .val (.int (own_ib (own_BT off bb ((((((0 : Int32) + g) + g) + g) / g)).toInt64))), .val (.long (own_sh (own_sum f md ((((0 : Int32) + g) + g) + g) (f_min g (n - ((((0 : Int32) + g) + g) + g)))) (own_BT off bb ((((((0 : Int32) + g) + g) + g) / g)).toInt64) bb)), .second, .val (.int y22)] [(.ref ce), (.int (((((0 : Int32) + g) + g) + g) + g))])) rfl rfl (hb hby d6_6) t (by rw [len_of qs25 qn25]; exact k)) ?_
  refine Wp.back (U' := (T24.setTop (mkF m 181 #[.val (.ref pk), .val (.ref ce), .val (.ref io), .val (.int off), .val (.int (((((0 : Int32) + g) + g) + g) + g)), .val (.long (own_sum f md ((((0 : Int32) + g) + g) + g) (f_min g (n - ((((0 : Int32) + g) + g) + g))))), .second, .val (.int (f_min g (n - ((((0 : Int32) + g) + g) + g)))), .val (.long (own_BT off bb ((((((0 : Int32) + g) + g) + g) / g)).toInt64)), .second, .val (.int (own_by (own_BT off bb ((((((0 : Int32) + g) + g) + g) / g)).toInt64))), .val (.int (own_ib (own_BT off bb ((((((0 : Int32) + g) + g) + g) / g)).toInt64))), .val (.long (own_sh (own_sum f md ((((0 : Int32) + g) + g) + g) (f_min g (n - ((((0 : Int32) + g) + g) + g)))) (own_BT off bb ((((((0 : Int32) + g) + g) + g) / g)).toInt64) bb)), .second, .val (.int y22)] []))) (fun t k => XS.icmpYes X24.here hx rfl (pc0 := 7) (pc' := 181) rfl (hb hby d6_7) rfl (flt hl4).2.1 (by decide) (by decide) k) ?_
  obtain ⟨fs, hr, hrun, hended, hW, hsame⟩ := X24.leave (v := none) (fun _ => rfl)
  refine Wp.done (X24.returnOut hx hret (hb hby d6_181) hr) hrun hended ⟨_, _, rfl, ?_, ⟨_, rfl⟩, hW, hsame.mono (by decide) (by decide)⟩
  show Q_wr4 Z pk ce io off pw kc kp ko g n md bb f fo h0 n0 _ T24.heap _
  rw [e24]
  exact ⟨rfl, N22, f23_6, V22⟩
theorem own_mono {l : Launch} {Z : State} {y : MethodName} {bytes : ByteArray} {maxL : Nat} {ret : Option FieldType} {ws : List Jvm.Cond} {R : Room} {A : Array Value} {h0 : Heap} {Q Q' : Option Value → Heap → List Loc → Prop} (H : Met l Z y bytes maxL ret ws R A h0 Q) (q : ∀ v h L, Q v h L → Q' v h L) : Met l Z y bytes maxL ret ws R A h0 Q' := fun p e ha hc hk s m args below hf happ hP hK => by
  obtain ⟨n, o, h1, h2, h3, v, L, rfl, hQ, hr⟩ := H p e ha hc hk s m args below hf happ hP hK
  exact ⟨n, _, h1, h2, h3, v, L, rfl, q _ _ _ hQ, hr⟩
theorem own_res {Z : State} {h : Heap} {a : Addr} {k : ClassId} {ty : FieldType} {z : Int32} {vs vs' : List Value} {dv : Value} (F : Arv Z h a k ty z vs dv) (q : ∀ i, i < z.toNatClampNeg → vs'.getD i dv = vs.getD i dv) : Arv Z h a k ty z vs' dv := by
  obtain ⟨c, A, r1, r2, r3, H, G⟩ := F
  exact ⟨c, A, r1, r2, r3, fun i hi => by rw [q i (r2 ▸ hi)]; exact H i hi, fun i hi => by rw [q i (r2 ▸ hi)]; exact G i hi⟩
def Q_ini1 (Z : State) (ar : Addr) (md : Int32)  (h0 : Heap) (n0 : Nat) (v : Option Value) (h : Heap) (L : List Loc) : Prop := ∃ fr0 : Addr, ∃ fk0 : ClassId, v = none ∧ Fr n0 L ∧ Keep h0 h [ar] ∧ h0.size ≤ fr0 ∧ Exa Z h ar "com/example/known_leaks/knownleaks/CellPacking" ∧ Fld Z h ar "com/example/known_leaks/knownleaks/CellPacking" "powers" "[J" (.ref fr0) ∧ Fld Z h ar "com/example/known_leaks/knownleaks/CellPacking" "cellsPerBlock" "I" (.int 1) ∧ Fld Z h ar "com/example/known_leaks/knownleaks/CellPacking" "blockBits" "I" (.int ((64 : Int32) - (f_lnz (((1 : Int64) * (md).toInt64) - (1 : Int64))))) ∧ Arv Z h fr0 fk0 .long (1 : Int32) [(.long (1 : Int64))] (.long (0 : Int64))
theorem d2_0 : decode prog_4_method_1_code 0 = .ok (.aload_n 0, 1) := by decide +kernel
theorem d2_1 : decode prog_4_method_1_code 1 = .ok (.invokespecial 1, 3) := by decide +kernel
theorem d2_4 : decode prog_4_method_1_code 4 = .ok (.iload_n 1, 1) := by decide +kernel
theorem d2_5 : decode prog_4_method_1_code 5 = .ok (.iconst 2, 1) := by decide +kernel
theorem d2_6 : decode prog_4_method_1_code 6 = .ok (.if_icmp .lt 8, 3) := by decide +kernel
theorem d2_9 : decode prog_4_method_1_code 9 = .ok (.iload_n 2, 1) := by decide +kernel
theorem d2_10 : decode prog_4_method_1_code 10 = .ok (.iconst 1, 1) := by decide +kernel
theorem d2_11 : decode prog_4_method_1_code 11 = .ok (.if_icmp .ge 18, 3) := by decide +kernel
theorem d2_29 : decode prog_4_method_1_code 29 = .ok (.iload_n 2, 1) := by decide +kernel
theorem d2_30 : decode prog_4_method_1_code 30 = .ok (.bipush 57, 2) := by decide +kernel
theorem d2_32 : decode prog_4_method_1_code 32 = .ok (.if_icmp .le 9, 3) := by decide +kernel
theorem d2_41 : decode prog_4_method_1_code 41 = .ok (.aload_n 0, 1) := by decide +kernel
theorem d2_42 : decode prog_4_method_1_code 42 = .ok (.iload_n 2, 1) := by decide +kernel
theorem d2_43 : decode prog_4_method_1_code 43 = .ok (.newarray .long, 2) := by decide +kernel
theorem d2_45 : decode prog_4_method_1_code 45 = .ok (.putfield 22, 3) := by decide +kernel
theorem d2_48 : decode prog_4_method_1_code 48 = .ok (.lconst 1, 1) := by decide +kernel
theorem d2_49 : decode prog_4_method_1_code 49 = .ok (.lstore_n 3, 1) := by decide +kernel
theorem d2_50 : decode prog_4_method_1_code 50 = .ok (.iconst 0, 1) := by decide +kernel
theorem d2_51 : decode prog_4_method_1_code 51 = .ok (.istore 5, 2) := by decide +kernel
theorem d2_53 : decode prog_4_method_1_code 53 = .ok (.iload 5, 2) := by decide +kernel
theorem d2_55 : decode prog_4_method_1_code 55 = .ok (.iload_n 2, 1) := by decide +kernel
theorem d2_56 : decode prog_4_method_1_code 56 = .ok (.if_icmp .ge 39, 3) := by decide +kernel
theorem d2_59 : decode prog_4_method_1_code 59 = .ok (.lload_n 3, 1) := by decide +kernel
theorem d2_60 : decode prog_4_method_1_code 60 = .ok (.ldc2_w 26, 3) := by decide +kernel
theorem d2_63 : decode prog_4_method_1_code 63 = .ok (.iload_n 1, 1) := by decide +kernel
theorem d2_64 : decode prog_4_method_1_code 64 = .ok (.i2l, 1) := by decide +kernel
theorem d2_65 : decode prog_4_method_1_code 65 = .ok (.ldiv, 1) := by decide +kernel
theorem d2_66 : decode prog_4_method_1_code 66 = .ok (.lcmp, 1) := by decide +kernel
theorem d2_67 : decode prog_4_method_1_code 67 = .ok (.ifCond .le 9, 3) := by decide +kernel
theorem d2_76 : decode prog_4_method_1_code 76 = .ok (.aload_n 0, 1) := by decide +kernel
theorem d2_77 : decode prog_4_method_1_code 77 = .ok (.getfield 22, 3) := by decide +kernel
theorem d2_80 : decode prog_4_method_1_code 80 = .ok (.iload 5, 2) := by decide +kernel
theorem d2_82 : decode prog_4_method_1_code 82 = .ok (.lload_n 3, 1) := by decide +kernel
theorem d2_83 : decode prog_4_method_1_code 83 = .ok (.lastore, 1) := by decide +kernel
theorem d2_84 : decode prog_4_method_1_code 84 = .ok (.lload_n 3, 1) := by decide +kernel
theorem d2_85 : decode prog_4_method_1_code 85 = .ok (.iload_n 1, 1) := by decide +kernel
theorem d2_86 : decode prog_4_method_1_code 86 = .ok (.i2l, 1) := by decide +kernel
theorem d2_87 : decode prog_4_method_1_code 87 = .ok (.lmul, 1) := by decide +kernel
theorem d2_88 : decode prog_4_method_1_code 88 = .ok (.lstore_n 3, 1) := by decide +kernel
theorem d2_89 : decode prog_4_method_1_code 89 = .ok (.iinc 5 1, 3) := by decide +kernel
theorem d2_92 : decode prog_4_method_1_code 92 = .ok (.goto (-39), 3) := by decide +kernel
theorem d2_95 : decode prog_4_method_1_code 95 = .ok (.aload_n 0, 1) := by decide +kernel
theorem d2_96 : decode prog_4_method_1_code 96 = .ok (.iload_n 1, 1) := by decide +kernel
theorem d2_97 : decode prog_4_method_1_code 97 = .ok (.putfield 28, 3) := by decide +kernel
theorem d2_100 : decode prog_4_method_1_code 100 = .ok (.aload_n 0, 1) := by decide +kernel
theorem d2_101 : decode prog_4_method_1_code 101 = .ok (.iload_n 2, 1) := by decide +kernel
theorem d2_102 : decode prog_4_method_1_code 102 = .ok (.putfield 32, 3) := by decide +kernel
theorem d2_105 : decode prog_4_method_1_code 105 = .ok (.aload_n 0, 1) := by decide +kernel
theorem d2_106 : decode prog_4_method_1_code 106 = .ok (.bipush 64, 2) := by decide +kernel
theorem d2_108 : decode prog_4_method_1_code 108 = .ok (.lload_n 3, 1) := by decide +kernel
theorem d2_109 : decode prog_4_method_1_code 109 = .ok (.lconst 1, 1) := by decide +kernel
theorem d2_110 : decode prog_4_method_1_code 110 = .ok (.lsub, 1) := by decide +kernel
theorem d2_111 : decode prog_4_method_1_code 111 = .ok (.invokestatic 35, 3) := by decide +kernel
theorem d2_114 : decode prog_4_method_1_code 114 = .ok (.isub, 1) := by decide +kernel
theorem d2_115 : decode prog_4_method_1_code 115 = .ok (.putfield 41, 3) := by decide +kernel
theorem d2_118 : decode prog_4_method_1_code 118 = .ok (.return_, 1) := by decide +kernel
theorem pd_2 : parseMethodDescriptor "(J)I" = some ⟨[.long], some .int⟩ := by decide +kernel
theorem pn2 : plainName "com/example/known_leaks/knownleaks/CellPacking" = true := by first | (simp [plainName, overriddenIn]; done) | decide +kernel
theorem ef2_RII (m : MethodId) (x0 : Addr) (x1 : Int32) (x2 : Int32) : entryFrame m #[(.ref x0), (.int x1), (.int x2)] 6 = mkF m 0 #[.val (.ref x0), .val (.int x1), .val (.int x2), .unset, .unset, .unset] [] := by first | (simp [entryFrame, mkF, argsToLocals, Value.category]; done) | rfl
set_option maxRecDepth 65536 in
set_option maxHeartbeats 40000000 in
theorem rm_ini1 (l : Launch) (Z : State) (a0 : Array Value) (hw : ∀ d ∈ tables_1, d.before a0 Z = true) (ws : List Jvm.Cond) (ar : Addr) (md : Int32)  (h0 : Heap) (n0 : Nat) (Z0 : n0 ≤ h0.size) (H0 : Exa Z h0 ar "com/example/known_leaks/knownleaks/CellPacking") (H1 : Fld Z h0 ar "com/example/known_leaks/knownleaks/CellPacking" "powers" "[J" .null) (H2 : Fld Z h0 ar "com/example/known_leaks/knownleaks/CellPacking" "modulus" "I" (.int 0)) (H3 : Fld Z h0 ar "com/example/known_leaks/knownleaks/CellPacking" "cellsPerBlock" "I" (.int 0)) (H4 : Fld Z h0 ar "com/example/known_leaks/knownleaks/CellPacking" "blockBits" "I" (.int 0)) (g_ar : n0 ≤ ar) (h2 : ¬ md < (2 : Int32)) (hnz : (md).toInt64 ≠ 0) (hp0 : ¬ ((144115188075855872 : Int64) / (md).toInt64) < (1 : Int64)) :
    Met l Z Y6 prog_4_method_1_code 6 none ws ({ frames := 2, cells := 1, slots := 5, locals := 30 } : Room) #[(.ref ar), (.int md), (.int 1)] h0 (Q_ini1 Z ar md h0 n0) := by
  refine own_body (plainFor_of_name pn2) ?_
  intro p e s m below meth c s₁ hx hby hret hlk hml hZ hown hnm X0 e0
  have N0 := Fr.nil n0
  refine Wp.back (U' := (s₁.setTop (mkF m 0 #[.val (.ref ar), .val (.int md), .val (.int 1), .unset, .unset, .unset] []))) (fun t k => castTop (ef2_RII m ar md (1 : Int32)) k) ?_
  refine Wp.back (U' := (s₁.setTop (mkF m 1 #[.val (.ref ar), .val (.int md), .val (.int 1), .unset, .unset, .unset] [(.ref ar)]))) (fun t k => XS.aloadN X0.here hx rfl (hb hby d2_0) rfl rfl k) ?_
  obtain ⟨T1, X1, e1, st1⟩ := initO X0 hx hZ hown (ow hw 10 rfl) (ow hw 11 rfl) (ow hw 12 rfl) e0 (g := (mkF m 1 #[.val (.ref ar), .val (.int md), .val (.int 1), .unset, .unset, .unset] [(.ref ar)])) rfl (by rw [hml]; rfl) rfl (hb hby d2_1) (by decide) (W := 0) (Nat.le_of_eq rfl) (by decide)
  refine Wp.back (U' := (T1.setTop (mkF m 4 #[.val (.ref ar), .val (.int md), .val (.int 1), .unset, .unset, .unset] []))) st1 ?_
  refine Wp.back (U' := (T1.setTop (mkF m 43 #[.val (.ref ar), .val (.int md), .val (.int 1), .unset, .unset, .unset] [(.int 1), (.ref ar)]))) (fun t k => XS.iloadN X1.here hx rfl (hb hby d2_4) rfl (XT.iconstV X1.here hx rfl 2 (hb hby d2_5) (by decide) (XS.icmpNo X1.here hx rfl (hb hby d2_6) rfl (flt h2).1 (XS.iloadN X1.here hx rfl (hb hby d2_9) rfl (XT.iconstV X1.here hx rfl 1 (hb hby d2_10) (by decide) (XS.icmpYes X1.here hx rfl (pc0 := 11) (pc' := 29) rfl (hb hby d2_11) rfl (flt (by decide)).2.1 (by decide) (by decide) (XS.iloadN X1.here hx rfl (hb hby d2_29) rfl (XT.bipushV X1.here hx rfl 57 (hb hby d2_30) (by decide) (XS.icmpYes X1.here hx rfl (pc0 := 32) (pc' := 41) rfl (hb hby d2_32) rfl (flt (by decide)).2.2.2 (by decide) (by decide) (XS.aloadN X1.here hx rfl (hb hby d2_41) rfl rfl (XS.iloadN X1.here hx rfl (hb hby d2_42) rfl k))))))))))) ?_
  obtain ⟨T2, h2, k2, X2, e2, E2, A2, st2⟩ := newP X1 hx hZ (ow hw 13 rfl) e1 (g := (mkF m 43 #[.val (.ref ar), .val (.int md), .val (.int 1), .unset, .unset, .unset] [(.int 1), (.ref ar)])) rfl (hb hby d2_43) rfl (by decide) (cap := 1) (by decide) (by decide) (by decide) (by decide)
  obtain ⟨b2, g2⟩ : ∃ z, z = h0.size := ⟨_, rfl⟩
  rw [← g2] at A2 st2
  have ne_ar_b2 : ar ≠ b2 := Nat.ne_of_lt (Nat.lt_of_lt_of_le H0.lt (Nat.le_of_eq g2.symm))
  have g_b2 : n0 ≤ b2 := Nat.le_trans Z0 (Nat.le_of_eq g2.symm)
  have sz_b2 : h0.size ≤ b2 := Nat.le_trans (Keep.refl h0 [ar]).1 (Nat.le_of_eq g2.symm)
  have f3_0 := Nat.le_trans Z0 E2.1
  have f3_1 := H0.ext E2
  have f3_2 := H1.ext E2
  have f3_3 := H2.ext E2
  have f3_4 := H3.ext E2
  have f3_5 := H4.ext E2
  have f3_6 := (Keep.refl h0 [ar]).ext E2
  have V2 : Arv Z h2 b2 k2 .long (1 : Int32) [(.long (0 : Int64))] (.long (0 : Int64)) := (Arv.new A2 (by decide)).pad (pad_rep [] (.long (0 : Int64)) 1)
  refine Wp.back (U' := (T2.setTop (mkF m 45 #[.val (.ref ar), .val (.int md), .val (.int 1), .unset, .unset, .unset] [(.ref b2), (.ref ar)]))) st2 ?_
  obtain ⟨T4, h4, X4, e4, W4, st4⟩ := putF X2 hx hZ hown (host := "") (Or.inl (ow hw 14 rfl)) Via.refl e2 f3_2 f3_1 (Or.inr ⟨(ow hw 15 rfl), rfl, hnm⟩) (ow hw 5 rfl) (ty := (.array .long)) (by decide) rfl rfl (g := (mkF m 45 #[.val (.ref ar), .val (.int md), .val (.int 1), .unset, .unset, .unset] [(.ref b2), (.ref ar)])) rfl rfl (hb hby d2_45)
  have Fw4 := f3_2.same W4
  have f5_0 := Nat.le_trans f3_0 (Keep.of_wr W4).1
  have f5_1 := f3_1.wr W4
  have f5_2 := f3_3.other W4 (Or.inr (slot_ne (Or.inr (ow hw 18 rfl)) (Or.inr (ow hw 15 rfl)) (by decide) (t := .int) (t' := (.array .long)) (by decide) (by decide)))
  have f5_3 := f3_4.other W4 (Or.inr (slot_ne (Or.inr (ow hw 20 rfl)) (Or.inr (ow hw 15 rfl)) (by decide) (t := .int) (t' := (.array .long)) (by decide) (by decide)))
  have f5_4 := f3_5.other W4 (Or.inr (slot_ne (Or.inr (ow hw 31 rfl)) (Or.inr (ow hw 15 rfl)) (by decide) (t := .int) (t' := (.array .long)) (by decide) (by decide)))
  have f5_5 := f3_6.wr W4 (Or.inl (List.mem_of_getElem? (i := 0) rfl))
  have f5_6 := V2.other W4 (Ne.symm ne_ar_b2)
  have N4 := Fr.snoc X4 N0 g_ar
  refine Wp.back (U' := (T4.setTop (mkF m 48 #[.val (.ref ar), .val (.int md), .val (.int 1), .unset, .unset, .unset] []))) st4 ?_
  refine Wp.back (U' := (T4.setTop (mkF m 66 #[.val (.ref ar), .val (.int md), .val (.int 1), .val (.long (1 : Int64)), .second, .val (.int 0)] [(.long ((144115188075855872 : Int64) / (md).toInt64)), (.long (1 : Int64))]))) (fun t k => XT.lconstV X4.here hx rfl (1 : Int64) (hb hby d2_48) (by decide) (XS.lstoreN X4.here hx rfl (hb hby d2_49) rfl (l' := #[.val (.ref ar), .val (.int md), .val (.int 1), .val (.long (1 : Int64)), .second, .unset]) rfl (XT.iconstV X4.here hx rfl 0 (hb hby d2_50) (by decide) (XS.istore X4.here hx rfl (hb hby d2_51) rfl (l' := #[.val (.ref ar), .val (.int md), .val (.int 1), .val (.long (1 : Int64)), .second, .val (.int 0)]) rfl (XS.iload X4.here hx rfl (hb hby d2_53) rfl (XS.iloadN X4.here hx rfl (hb hby d2_55) rfl (XS.icmpNo X4.here hx rfl (hb hby d2_56) rfl (tlt (by decide)).2.1 (XS.lloadN X4.here hx rfl (hb hby d2_59) rfl (Jvm.Stand.ldc2J X4 hx hown (mvT hZ (ow hw 16 rfl)) rfl (hb hby d2_60) (XS.iloadN X4.here hx rfl (hb hby d2_63) rfl (XS.i2l X4.here hx rfl (hb hby d2_64) rfl (XS.ldiv X4.here hx rfl (hb hby d2_65) rfl hnz k)))))))))))) ?_
  refine Wp.back (U' := (T4.setTop (mkF m 77 #[.val (.ref ar), .val (.int md), .val (.int 1), .val (.long (1 : Int64)), .second, .val (.int 0)] [(.ref ar)]))) (fun t k => XS.lcmp X4.here hx rfl (hb hby d2_66) rfl (XS.ifYes X4.here hx rfl (pc0 := 67) (pc' := 76) rfl (hb hby d2_67) rfl ((if0 _ _).trans (flt (fun q => hp0 ((lw_gt (1 : Int64) ((144115188075855872 : Int64) / (md).toInt64)).mp q))).2.2.2) (by decide) (by decide) (XS.aloadN X4.here hx rfl (hb hby d2_76) rfl rfl k))) ?_
  obtain ⟨T6, X6, e6, st6⟩ := getF X4 hx hZ hown (host := "") (Or.inl (ow hw 14 rfl)) Via.refl e4 Fw4 (g := (mkF m 77 #[.val (.ref ar), .val (.int md), .val (.int 1), .val (.long (1 : Int64)), .second, .val (.int 0)] [(.ref ar)])) rfl rfl (hb hby d2_77)
  refine Wp.back (U' := (T6.setTop (mkF m 80 #[.val (.ref ar), .val (.int md), .val (.int 1), .val (.long (1 : Int64)), .second, .val (.int 0)] [(.ref b2)]))) st6 ?_
  refine Wp.back (U' := (T6.setTop (mkF m 83 #[.val (.ref ar), .val (.int md), .val (.int 1), .val (.long (1 : Int64)), .second, .val (.int 0)] [(.long (1 : Int64)), (.int 0), (.ref b2)]))) (fun t k => XS.iload X6.here hx rfl (hb hby d2_80) rfl (XS.lloadN X6.here hx rfl (hb hby d2_82) rfl k)) ?_
  have vq7 := f5_6
  obtain ⟨cl7, Ar7, qa7, qs7, qn7, qh7, qg7⟩ := vq7
  have hin7 : ¬ ((0 : Int32) < 0 ∨ cl7.slots.size ≤ ((0 : Int32)).toNatClampNeg) := inb_of qs7 ⟨by decide, by decide⟩
  obtain ⟨T7, h7, X7, e7, W7, st7⟩ := stJ X6 hx hZ e6 Ar7 (j := (0 : Int32)) hin7 (g := (mkF m 83 #[.val (.ref ar), .val (.int md), .val (.int 1), .val (.long (1 : Int64)), .second, .val (.int 0)] [(.long (1 : Int64)), (.int 0), (.ref b2)])) rfl rfl (hb hby d2_83)
  have V7 : Arv Z h7 b2 k2 .long (1 : Int32) [(.long (1 : Int64))] (.long (0 : Int64)) := Arv.set Ar7 qa7 qs7 qn7 qh7 qg7 rfl W7 0 rfl (Nat.le_of_ble_eq_true rfl)
  have f8_0 := Nat.le_trans f5_0 (Keep.of_wr W7).1
  have f8_1 := f5_1.wr W7
  have f8_2 := f5_2.other W7 (Or.inl ne_ar_b2)
  have f8_3 := f5_3.other W7 (Or.inl ne_ar_b2)
  have f8_4 := f5_4.other W7 (Or.inl ne_ar_b2)
  have f8_5 := f5_5.wr W7 (Or.inr sz_b2)
  have f8_6 := Fw4.other W7 (Or.inl ne_ar_b2)
  have N7 := Fr.snoc X7 N4 g_b2
  refine Wp.back (U' := (T7.setTop (mkF m 84 #[.val (.ref ar), .val (.int md), .val (.int 1), .val (.long (1 : Int64)), .second, .val (.int 0)] []))) st7 ?_
  refine Wp.back (U' := (T7.setTop (mkF m 97 #[.val (.ref ar), .val (.int md), .val (.int 1), .val (.long ((1 : Int64) * (md).toInt64)), .second, .val (.int 1)] [(.int md), (.ref ar)]))) (fun t k => XS.lloadN X7.here hx rfl (hb hby d2_84) rfl (XS.iloadN X7.here hx rfl (hb hby d2_85) rfl (XS.i2l X7.here hx rfl (hb hby d2_86) rfl (XS.lmul X7.here hx rfl (hb hby d2_87) rfl (XS.lstoreN X7.here hx rfl (hb hby d2_88) rfl (l' := #[.val (.ref ar), .val (.int md), .val (.int 1), .val (.long ((1 : Int64) * (md).toInt64)), .second, .val (.int 0)]) rfl (XT.iincV X7.here hx rfl 1 (hb hby d2_89) (by decide) rfl (l' := #[.val (.ref ar), .val (.int md), .val (.int 1), .val (.long ((1 : Int64) * (md).toInt64)), .second, .val (.int 1)]) rfl (XS.goto X7.here hx rfl (pc0 := 92) (pc' := 53) rfl (hb hby d2_92) (by decide) (by decide) (XS.iload X7.here hx rfl (hb hby d2_53) rfl (XS.iloadN X7.here hx rfl (hb hby d2_55) rfl (XS.icmpYes X7.here hx rfl (pc0 := 56) (pc' := 95) rfl (hb hby d2_56) rfl (flt (by decide)).2.1 (by decide) (by decide) (XS.aloadN X7.here hx rfl (hb hby d2_95) rfl rfl (XS.iloadN X7.here hx rfl (hb hby d2_96) rfl k)))))))))))) ?_
  obtain ⟨T9, h9, X9, e9, W9, st9⟩ := putF X7 hx hZ hown (host := "") (Or.inl (ow hw 17 rfl)) Via.refl e7 f8_2 f8_1 (Or.inr ⟨(ow hw 18 rfl), rfl, hnm⟩) (ow hw 5 rfl) (ty := .int) (by decide) rfl rfl (g := (mkF m 97 #[.val (.ref ar), .val (.int md), .val (.int 1), .val (.long ((1 : Int64) * (md).toInt64)), .second, .val (.int 1)] [(.int md), (.ref ar)])) rfl rfl (hb hby d2_97)
  have Fw9 := f8_2.same W9
  have f10_0 := Nat.le_trans f8_0 (Keep.of_wr W9).1
  have f10_1 := f8_1.wr W9
  have f10_2 := f8_3.other W9 (Or.inr (slot_ne (Or.inr (ow hw 20 rfl)) (Or.inr (ow hw 18 rfl)) (by decide) (t := .int) (t' := .int) (by decide) (by decide)))
  have f10_3 := f8_4.other W9 (Or.inr (slot_ne (Or.inr (ow hw 31 rfl)) (Or.inr (ow hw 18 rfl)) (by decide) (t := .int) (t' := .int) (by decide) (by decide)))
  have f10_4 := f8_5.wr W9 (Or.inl (List.mem_of_getElem? (i := 0) rfl))
  have f10_5 := f8_6.other W9 (Or.inr (slot_ne (Or.inr (ow hw 15 rfl)) (Or.inr (ow hw 18 rfl)) (by decide) (t := (.array .long)) (t' := .int) (by decide) (by decide)))
  have f10_6 := V7.other W9 (Ne.symm ne_ar_b2)
  have N9 := Fr.snoc X9 N7 g_ar
  refine Wp.back (U' := (T9.setTop (mkF m 100 #[.val (.ref ar), .val (.int md), .val (.int 1), .val (.long ((1 : Int64) * (md).toInt64)), .second, .val (.int 1)] []))) st9 ?_
  refine Wp.back (U' := (T9.setTop (mkF m 102 #[.val (.ref ar), .val (.int md), .val (.int 1), .val (.long ((1 : Int64) * (md).toInt64)), .second, .val (.int 1)] [(.int 1), (.ref ar)]))) (fun t k => XS.aloadN X9.here hx rfl (hb hby d2_100) rfl rfl (XS.iloadN X9.here hx rfl (hb hby d2_101) rfl k)) ?_
  obtain ⟨T11, h11, X11, e11, W11, st11⟩ := putF X9 hx hZ hown (host := "") (Or.inl (ow hw 19 rfl)) Via.refl e9 f10_2 f10_1 (Or.inr ⟨(ow hw 20 rfl), rfl, hnm⟩) (ow hw 5 rfl) (ty := .int) (by decide) rfl rfl (g := (mkF m 102 #[.val (.ref ar), .val (.int md), .val (.int 1), .val (.long ((1 : Int64) * (md).toInt64)), .second, .val (.int 1)] [(.int 1), (.ref ar)])) rfl rfl (hb hby d2_102)
  have Fw11 := f10_2.same W11
  have f12_0 := Nat.le_trans f10_0 (Keep.of_wr W11).1
  have f12_1 := f10_1.wr W11
  have f12_2 := f10_3.other W11 (Or.inr (slot_ne (Or.inr (ow hw 31 rfl)) (Or.inr (ow hw 20 rfl)) (by decide) (t := .int) (t' := .int) (by decide) (by decide)))
  have f12_3 := f10_4.wr W11 (Or.inl (List.mem_of_getElem? (i := 0) rfl))
  have f12_4 := f10_5.other W11 (Or.inr (slot_ne (Or.inr (ow hw 15 rfl)) (Or.inr (ow hw 20 rfl)) (by decide) (t := (.array .long)) (t' := .int) (by decide) (by decide)))
  have f12_5 := f10_6.other W11 (Ne.symm ne_ar_b2)
  have f12_6 := Fw9.other W11 (Or.inr (slot_ne (Or.inr (ow hw 18 rfl)) (Or.inr (ow hw 20 rfl)) (by decide) (t := .int) (t' := .int) (by decide) (by decide)))
  have N11 := Fr.snoc X11 N9 g_ar
  refine Wp.back (U' := (T11.setTop (mkF m 105 #[.val (.ref ar), .val (.int md), .val (.int 1), .val (.long ((1 : Int64) * (md).toInt64)), .second, .val (.int 1)] []))) st11 ?_
  refine Wp.back (U' := (T11.setTop (mkF m 111 #[.val (.ref ar), .val (.int md), .val (.int 1), .val (.long ((1 : Int64) * (md).toInt64)), .second, .val (.int 1)] [(.long (((1 : Int64) * (md).toInt64) - (1 : Int64))), (.int 64), (.ref ar)]))) (fun t k => XS.aloadN X11.here hx rfl (hb hby d2_105) rfl rfl (XT.bipushV X11.here hx rfl 64 (hb hby d2_106) (by decide) (XS.lloadN X11.here hx rfl (hb hby d2_108) rfl (XT.lconstV X11.here hx rfl (1 : Int64) (hb hby d2_109) (by decide) (XS.lsub X11.here hx rfl (hb hby d2_110) rfl k))))) ?_
  obtain ⟨_, _, ⟨T13, L13, k13, n13⟩, -, X13, ⟨Lc13, hQ13, l13, y13, z13⟩, st13⟩ := Jvm.LawKit.callS X11 hx (y := Y1) hown (mvT hZ (ow hw 21 rfl)) (mvT hZ (ow hw 22 rfl)) (mvT hZ (ow hw 23 rfl)) (mvT hZ (ow hw 24 rfl)) (by decide) (backOf (W := 2) (rm_f_lnz l Z a0 hw [] (((1 : Int64) * (md).toInt64) - (1 : Int64)) h11 n0 f12_0 ) hZ (ow hw 24 rfl) (ow hw 23 rfl) (by decide) (by decide)) (g := (mkF m 111 #[.val (.ref ar), .val (.int md), .val (.int 1), .val (.long ((1 : Int64) * (md).toInt64)), .second, .val (.int 1)] [(.long (((1 : Int64) * (md).toInt64) - (1 : Int64))), (.int 64), (.ref ar)])) rfl (by rw [hml]; rfl) (argsL := [(.long (((1 : Int64) * (md).toInt64) - (1 : Int64)))]) (rest := [(.int 64), (.ref ar)]) (lenOf pd_2 rfl) rfl (Nat.le_of_eq rfl) (hb hby d2_111) (fun _ _ => ⟨rfl, e11, (by decide : 1 + 0 ≤ _), (by decide : 1 + 0 ≤ _)⟩)
  dsimp only [Pt.U, Pt.locs, Pt.cells, Pt.slots] at X13 l13 y13 z13 st13 hQ13
  subst l13 y13 z13
  obtain ⟨rfl, N13q, e13⟩ := hQ13
  have N13 := Fr.app N11 N13q
  refine Wp.back (U' := (T13.setTop (mkF m 114 #[.val (.ref ar), .val (.int md), .val (.int 1), .val (.long ((1 : Int64) * (md).toInt64)), .second, .val (.int 1)] [(.int (f_lnz (((1 : Int64) * (md).toInt64) - (1 : Int64)))), (.int 64), (.ref ar)]))) st13 ?_
  refine Wp.back (U' := (T13.setTop (mkF m 115 #[.val (.ref ar), .val (.int md), .val (.int 1), .val (.long ((1 : Int64) * (md).toInt64)), .second, .val (.int 1)] [(.int ((64 : Int32) - (f_lnz (((1 : Int64) * (md).toInt64) - (1 : Int64))))), (.ref ar)]))) (fun t k => XS.isub X13.here hx rfl (hb hby d2_114) rfl k) ?_
  obtain ⟨T14, h14, X14, e14, W14, st14⟩ := putF X13 hx hZ hown (host := "") (Or.inl (ow hw 30 rfl)) Via.refl e13 f12_2 f12_1 (Or.inr ⟨(ow hw 31 rfl), rfl, hnm⟩) (ow hw 5 rfl) (ty := .int) (by decide) rfl rfl (g := (mkF m 115 #[.val (.ref ar), .val (.int md), .val (.int 1), .val (.long ((1 : Int64) * (md).toInt64)), .second, .val (.int 1)] [(.int ((64 : Int32) - (f_lnz (((1 : Int64) * (md).toInt64) - (1 : Int64))))), (.ref ar)])) rfl rfl (hb hby d2_115)
  have Fw14 := f12_2.same W14
  have f15_0 := Nat.le_trans f12_0 (Keep.of_wr W14).1
  have f15_1 := f12_1.wr W14
  have f15_2 := f12_3.wr W14 (Or.inl (List.mem_of_getElem? (i := 0) rfl))
  have f15_3 := f12_4.other W14 (Or.inr (slot_ne (Or.inr (ow hw 15 rfl)) (Or.inr (ow hw 31 rfl)) (by decide) (t := (.array .long)) (t' := .int) (by decide) (by decide)))
  have f15_4 := f12_5.other W14 (Ne.symm ne_ar_b2)
  have f15_5 := f12_6.other W14 (Or.inr (slot_ne (Or.inr (ow hw 18 rfl)) (Or.inr (ow hw 31 rfl)) (by decide) (t := .int) (t' := .int) (by decide) (by decide)))
  have f15_6 := Fw11.other W14 (Or.inr (slot_ne (Or.inr (ow hw 20 rfl)) (Or.inr (ow hw 31 rfl)) (by decide) (t := .int) (t' := .int) (by decide) (by decide)))
  have N14 := Fr.snoc X14 N13 g_ar
  refine Wp.back (U' := (T14.setTop (mkF m 118 #[.val (.ref ar), .val (.int md), .val (.int 1), .val (.long ((1 : Int64) * (md).toInt64)), .second, .val (.int 1)] []))) st14 ?_
  obtain ⟨fs, hr, hrun, hended, hW, hsame⟩ := X14.leave (v := none) (fun _ => rfl)
  refine Wp.done (X14.returnOut hx hret (hb hby d2_118) hr) hrun hended ⟨_, _, rfl, ?_, ⟨_, rfl⟩, hW, hsame.mono (by decide) (by decide)⟩
  show Q_ini1 Z ar md h0 n0 _ T14.heap _
  rw [e14]
  exact ⟨b2, k2, rfl, N14, f15_2, sz_b2, f15_1, f15_3, f15_6, Fw14, f15_4⟩
def Q_ini2 (Z : State) (ar : Addr) (md : Int32)  (h0 : Heap) (n0 : Nat) (v : Option Value) (h : Heap) (L : List Loc) : Prop := ∃ fr0 : Addr, ∃ fk0 : ClassId, v = none ∧ Fr n0 L ∧ Keep h0 h [ar] ∧ h0.size ≤ fr0 ∧ Exa Z h ar "com/example/known_leaks/knownleaks/CellPacking" ∧ Fld Z h ar "com/example/known_leaks/knownleaks/CellPacking" "powers" "[J" (.ref fr0) ∧ Fld Z h ar "com/example/known_leaks/knownleaks/CellPacking" "cellsPerBlock" "I" (.int 2) ∧ Fld Z h ar "com/example/known_leaks/knownleaks/CellPacking" "blockBits" "I" (.int ((64 : Int32) - (f_lnz ((((1 : Int64) * (md).toInt64) * (md).toInt64) - (1 : Int64))))) ∧ Arv Z h fr0 fk0 .long (2 : Int32) [(.long (1 : Int64)), (.long ((1 : Int64) * (md).toInt64))] (.long (0 : Int64))
set_option maxRecDepth 65536 in
set_option maxHeartbeats 40000000 in
theorem rm_ini2 (l : Launch) (Z : State) (a0 : Array Value) (hw : ∀ d ∈ tables_1, d.before a0 Z = true) (ws : List Jvm.Cond) (ar : Addr) (md : Int32)  (h0 : Heap) (n0 : Nat) (Z0 : n0 ≤ h0.size) (H0 : Exa Z h0 ar "com/example/known_leaks/knownleaks/CellPacking") (H1 : Fld Z h0 ar "com/example/known_leaks/knownleaks/CellPacking" "powers" "[J" .null) (H2 : Fld Z h0 ar "com/example/known_leaks/knownleaks/CellPacking" "modulus" "I" (.int 0)) (H3 : Fld Z h0 ar "com/example/known_leaks/knownleaks/CellPacking" "cellsPerBlock" "I" (.int 0)) (H4 : Fld Z h0 ar "com/example/known_leaks/knownleaks/CellPacking" "blockBits" "I" (.int 0)) (g_ar : n0 ≤ ar) (h2 : ¬ md < (2 : Int32)) (hnz : (md).toInt64 ≠ 0) (hp0 : ¬ ((144115188075855872 : Int64) / (md).toInt64) < (1 : Int64)) (hp1 : ¬ ((144115188075855872 : Int64) / (md).toInt64) < ((1 : Int64) * (md).toInt64)) :
    Met l Z Y6 prog_4_method_1_code 6 none ws ({ frames := 2, cells := 1, slots := 5, locals := 30 } : Room) #[(.ref ar), (.int md), (.int 2)] h0 (Q_ini2 Z ar md h0 n0) := by
  refine own_body (plainFor_of_name pn2) ?_
  intro p e s m below meth c s₁ hx hby hret hlk hml hZ hown hnm X0 e0
  have N0 := Fr.nil n0
  refine Wp.back (U' := (s₁.setTop (mkF m 0 #[.val (.ref ar), .val (.int md), .val (.int 2), .unset, .unset, .unset] []))) (fun t k => castTop (ef2_RII m ar md (2 : Int32)) k) ?_
  refine Wp.back (U' := (s₁.setTop (mkF m 1 #[.val (.ref ar), .val (.int md), .val (.int 2), .unset, .unset, .unset] [(.ref ar)]))) (fun t k => XS.aloadN X0.here hx rfl (hb hby d2_0) rfl rfl k) ?_
  obtain ⟨T1, X1, e1, st1⟩ := initO X0 hx hZ hown (ow hw 10 rfl) (ow hw 11 rfl) (ow hw 12 rfl) e0 (g := (mkF m 1 #[.val (.ref ar), .val (.int md), .val (.int 2), .unset, .unset, .unset] [(.ref ar)])) rfl (by rw [hml]; rfl) rfl (hb hby d2_1) (by decide) (W := 0) (Nat.le_of_eq rfl) (by decide)
  refine Wp.back (U' := (T1.setTop (mkF m 4 #[.val (.ref ar), .val (.int md), .val (.int 2), .unset, .unset, .unset] []))) st1 ?_
  refine Wp.back (U' := (T1.setTop (mkF m 43 #[.val (.ref ar), .val (.int md), .val (.int 2), .unset, .unset, .unset] [(.int 2), (.ref ar)]))) (fun t k => XS.iloadN X1.here hx rfl (hb hby d2_4) rfl (XT.iconstV X1.here hx rfl 2 (hb hby d2_5) (by decide) (XS.icmpNo X1.here hx rfl (hb hby d2_6) rfl (flt h2).1 (XS.iloadN X1.here hx rfl (hb hby d2_9) rfl (XT.iconstV X1.here hx rfl 1 (hb hby d2_10) (by decide) (XS.icmpYes X1.here hx rfl (pc0 := 11) (pc' := 29) rfl (hb hby d2_11) rfl (flt (by decide)).2.1 (by decide) (by decide) (XS.iloadN X1.here hx rfl (hb hby d2_29) rfl (XT.bipushV X1.here hx rfl 57 (hb hby d2_30) (by decide) (XS.icmpYes X1.here hx rfl (pc0 := 32) (pc' := 41) rfl (hb hby d2_32) rfl (flt (by decide)).2.2.2 (by decide) (by decide) (XS.aloadN X1.here hx rfl (hb hby d2_41) rfl rfl (XS.iloadN X1.here hx rfl (hb hby d2_42) rfl k))))))))))) ?_
  obtain ⟨T2, h2, k2, X2, e2, E2, A2, st2⟩ := newP X1 hx hZ (ow hw 13 rfl) e1 (g := (mkF m 43 #[.val (.ref ar), .val (.int md), .val (.int 2), .unset, .unset, .unset] [(.int 2), (.ref ar)])) rfl (hb hby d2_43) rfl (by decide) (cap := 2) (by decide) (by decide) (by decide) (by decide)
  obtain ⟨b2, g2⟩ : ∃ z, z = h0.size := ⟨_, rfl⟩
  rw [← g2] at A2 st2
  have ne_ar_b2 : ar ≠ b2 := Nat.ne_of_lt (Nat.lt_of_lt_of_le H0.lt (Nat.le_of_eq g2.symm))
  have g_b2 : n0 ≤ b2 := Nat.le_trans Z0 (Nat.le_of_eq g2.symm)
  have sz_b2 : h0.size ≤ b2 := Nat.le_trans (Keep.refl h0 [ar]).1 (Nat.le_of_eq g2.symm)
  have f3_0 := Nat.le_trans Z0 E2.1
  have f3_1 := H0.ext E2
  have f3_2 := H1.ext E2
  have f3_3 := H2.ext E2
  have f3_4 := H3.ext E2
  have f3_5 := H4.ext E2
  have f3_6 := (Keep.refl h0 [ar]).ext E2
  have V2 : Arv Z h2 b2 k2 .long (2 : Int32) [(.long (0 : Int64)), (.long (0 : Int64))] (.long (0 : Int64)) := (Arv.new A2 (by decide)).pad (pad_rep [] (.long (0 : Int64)) 2)
  refine Wp.back (U' := (T2.setTop (mkF m 45 #[.val (.ref ar), .val (.int md), .val (.int 2), .unset, .unset, .unset] [(.ref b2), (.ref ar)]))) st2 ?_
  obtain ⟨T4, h4, X4, e4, W4, st4⟩ := putF X2 hx hZ hown (host := "") (Or.inl (ow hw 14 rfl)) Via.refl e2 f3_2 f3_1 (Or.inr ⟨(ow hw 15 rfl), rfl, hnm⟩) (ow hw 5 rfl) (ty := (.array .long)) (by decide) rfl rfl (g := (mkF m 45 #[.val (.ref ar), .val (.int md), .val (.int 2), .unset, .unset, .unset] [(.ref b2), (.ref ar)])) rfl rfl (hb hby d2_45)
  have Fw4 := f3_2.same W4
  have f5_0 := Nat.le_trans f3_0 (Keep.of_wr W4).1
  have f5_1 := f3_1.wr W4
  have f5_2 := f3_3.other W4 (Or.inr (slot_ne (Or.inr (ow hw 18 rfl)) (Or.inr (ow hw 15 rfl)) (by decide) (t := .int) (t' := (.array .long)) (by decide) (by decide)))
  have f5_3 := f3_4.other W4 (Or.inr (slot_ne (Or.inr (ow hw 20 rfl)) (Or.inr (ow hw 15 rfl)) (by decide) (t := .int) (t' := (.array .long)) (by decide) (by decide)))
  have f5_4 := f3_5.other W4 (Or.inr (slot_ne (Or.inr (ow hw 31 rfl)) (Or.inr (ow hw 15 rfl)) (by decide) (t := .int) (t' := (.array .long)) (by decide) (by decide)))
  have f5_5 := f3_6.wr W4 (Or.inl (List.mem_of_getElem? (i := 0) rfl))
  have f5_6 := V2.other W4 (Ne.symm ne_ar_b2)
  have N4 := Fr.snoc X4 N0 g_ar
  refine Wp.back (U' := (T4.setTop (mkF m 48 #[.val (.ref ar), .val (.int md), .val (.int 2), .unset, .unset, .unset] []))) st4 ?_
  refine Wp.back (U' := (T4.setTop (mkF m 66 #[.val (.ref ar), .val (.int md), .val (.int 2), .val (.long (1 : Int64)), .second, .val (.int 0)] [(.long ((144115188075855872 : Int64) / (md).toInt64)), (.long (1 : Int64))]))) (fun t k => XT.lconstV X4.here hx rfl (1 : Int64) (hb hby d2_48) (by decide) (XS.lstoreN X4.here hx rfl (hb hby d2_49) rfl (l' := #[.val (.ref ar), .val (.int md), .val (.int 2), .val (.long (1 : Int64)), .second, .unset]) rfl (XT.iconstV X4.here hx rfl 0 (hb hby d2_50) (by decide) (XS.istore X4.here hx rfl (hb hby d2_51) rfl (l' := #[.val (.ref ar), .val (.int md), .val (.int 2), .val (.long (1 : Int64)), .second, .val (.int 0)]) rfl (XS.iload X4.here hx rfl (hb hby d2_53) rfl (XS.iloadN X4.here hx rfl (hb hby d2_55) rfl (XS.icmpNo X4.here hx rfl (hb hby d2_56) rfl (tlt (by decide)).2.1 (XS.lloadN X4.here hx rfl (hb hby d2_59) rfl (Jvm.Stand.ldc2J X4 hx hown (mvT hZ (ow hw 16 rfl)) rfl (hb hby d2_60) (XS.iloadN X4.here hx rfl (hb hby d2_63) rfl (XS.i2l X4.here hx rfl (hb hby d2_64) rfl (XS.ldiv X4.here hx rfl (hb hby d2_65) rfl hnz k)))))))))))) ?_
  refine Wp.back (U' := (T4.setTop (mkF m 77 #[.val (.ref ar), .val (.int md), .val (.int 2), .val (.long (1 : Int64)), .second, .val (.int 0)] [(.ref ar)]))) (fun t k => XS.lcmp X4.here hx rfl (hb hby d2_66) rfl (XS.ifYes X4.here hx rfl (pc0 := 67) (pc' := 76) rfl (hb hby d2_67) rfl ((if0 _ _).trans (flt (fun q => hp0 ((lw_gt (1 : Int64) ((144115188075855872 : Int64) / (md).toInt64)).mp q))).2.2.2) (by decide) (by decide) (XS.aloadN X4.here hx rfl (hb hby d2_76) rfl rfl k))) ?_
  obtain ⟨T6, X6, e6, st6⟩ := getF X4 hx hZ hown (host := "") (Or.inl (ow hw 14 rfl)) Via.refl e4 Fw4 (g := (mkF m 77 #[.val (.ref ar), .val (.int md), .val (.int 2), .val (.long (1 : Int64)), .second, .val (.int 0)] [(.ref ar)])) rfl rfl (hb hby d2_77)
  refine Wp.back (U' := (T6.setTop (mkF m 80 #[.val (.ref ar), .val (.int md), .val (.int 2), .val (.long (1 : Int64)), .second, .val (.int 0)] [(.ref b2)]))) st6 ?_
  refine Wp.back (U' := (T6.setTop (mkF m 83 #[.val (.ref ar), .val (.int md), .val (.int 2), .val (.long (1 : Int64)), .second, .val (.int 0)] [(.long (1 : Int64)), (.int 0), (.ref b2)]))) (fun t k => XS.iload X6.here hx rfl (hb hby d2_80) rfl (XS.lloadN X6.here hx rfl (hb hby d2_82) rfl k)) ?_
  have vq7 := f5_6
  obtain ⟨cl7, Ar7, qa7, qs7, qn7, qh7, qg7⟩ := vq7
  have hin7 : ¬ ((0 : Int32) < 0 ∨ cl7.slots.size ≤ ((0 : Int32)).toNatClampNeg) := inb_of qs7 ⟨by decide, by decide⟩
  obtain ⟨T7, h7, X7, e7, W7, st7⟩ := stJ X6 hx hZ e6 Ar7 (j := (0 : Int32)) hin7 (g := (mkF m 83 #[.val (.ref ar), .val (.int md), .val (.int 2), .val (.long (1 : Int64)), .second, .val (.int 0)] [(.long (1 : Int64)), (.int 0), (.ref b2)])) rfl rfl (hb hby d2_83)
  have V7 : Arv Z h7 b2 k2 .long (2 : Int32) [(.long (1 : Int64)), (.long (0 : Int64))] (.long (0 : Int64)) := Arv.set Ar7 qa7 qs7 qn7 qh7 qg7 rfl W7 0 rfl (Nat.le_of_ble_eq_true rfl)
  have f8_0 := Nat.le_trans f5_0 (Keep.of_wr W7).1
  have f8_1 := f5_1.wr W7
  have f8_2 := f5_2.other W7 (Or.inl ne_ar_b2)
  have f8_3 := f5_3.other W7 (Or.inl ne_ar_b2)
  have f8_4 := f5_4.other W7 (Or.inl ne_ar_b2)
  have f8_5 := f5_5.wr W7 (Or.inr sz_b2)
  have f8_6 := Fw4.other W7 (Or.inl ne_ar_b2)
  have N7 := Fr.snoc X7 N4 g_b2
  refine Wp.back (U' := (T7.setTop (mkF m 84 #[.val (.ref ar), .val (.int md), .val (.int 2), .val (.long (1 : Int64)), .second, .val (.int 0)] []))) st7 ?_
  refine Wp.back (U' := (T7.setTop (mkF m 63 #[.val (.ref ar), .val (.int md), .val (.int 2), .val (.long ((1 : Int64) * (md).toInt64)), .second, .val (.int 1)] [(.long (144115188075855872 : Int64)), (.long ((1 : Int64) * (md).toInt64))]))) (fun t k => XS.lloadN X7.here hx rfl (hb hby d2_84) rfl (XS.iloadN X7.here hx rfl (hb hby d2_85) rfl (XS.i2l X7.here hx rfl (hb hby d2_86) rfl (XS.lmul X7.here hx rfl (hb hby d2_87) rfl (XS.lstoreN X7.here hx rfl (hb hby d2_88) rfl (l' := #[.val (.ref ar), .val (.int md), .val (.int 2), .val (.long ((1 : Int64) * (md).toInt64)), .second, .val (.int 0)]) rfl (XT.iincV X7.here hx rfl 1 (hb hby d2_89) (by decide) rfl (l' := #[.val (.ref ar), .val (.int md), .val (.int 2), .val (.long ((1 : Int64) * (md).toInt64)), .second, .val (.int 1)]) rfl (XS.goto X7.here hx rfl (pc0 := 92) (pc' := 53) rfl (hb hby d2_92) (by decide) (by decide) (XS.iload X7.here hx rfl (hb hby d2_53) rfl (XS.iloadN X7.here hx rfl (hb hby d2_55) rfl (XS.icmpNo X7.here hx rfl (hb hby d2_56) rfl (tlt (by decide)).2.1 (XS.lloadN X7.here hx rfl (hb hby d2_59) rfl (Jvm.Stand.ldc2J X7 hx hown (mvT hZ (ow hw 16 rfl)) rfl (hb hby d2_60) k)))))))))))) ?_
  refine Wp.back (U' := (T7.setTop (mkF m 77 #[.val (.ref ar), .val (.int md), .val (.int 2), .val (.long ((1 : Int64) * (md).toInt64)), .second, .val (.int 1)] [(.ref ar)]))) (fun t k => XS.iloadN X7.here hx rfl (hb hby d2_63) rfl (XS.i2l X7.here hx rfl (hb hby d2_64) rfl (XS.ldiv X7.here hx rfl (hb hby d2_65) rfl hnz (XS.lcmp X7.here hx rfl (hb hby d2_66) rfl (XS.ifYes X7.here hx rfl (pc0 := 67) (pc' := 76) rfl (hb hby d2_67) rfl ((if0 _ _).trans (flt (fun q => hp1 ((lw_gt ((1 : Int64) * (md).toInt64) ((144115188075855872 : Int64) / (md).toInt64)).mp q))).2.2.2) (by decide) (by decide) (XS.aloadN X7.here hx rfl (hb hby d2_76) rfl rfl k)))))) ?_
  obtain ⟨T9, X9, e9, st9⟩ := getF X7 hx hZ hown (host := "") (Or.inl (ow hw 14 rfl)) Via.refl e7 f8_6 (g := (mkF m 77 #[.val (.ref ar), .val (.int md), .val (.int 2), .val (.long ((1 : Int64) * (md).toInt64)), .second, .val (.int 1)] [(.ref ar)])) rfl rfl (hb hby d2_77)
  refine Wp.back (U' := (T9.setTop (mkF m 80 #[.val (.ref ar), .val (.int md), .val (.int 2), .val (.long ((1 : Int64) * (md).toInt64)), .second, .val (.int 1)] [(.ref b2)]))) st9 ?_
  refine Wp.back (U' := (T9.setTop (mkF m 83 #[.val (.ref ar), .val (.int md), .val (.int 2), .val (.long ((1 : Int64) * (md).toInt64)), .second, .val (.int 1)] [(.long ((1 : Int64) * (md).toInt64)), (.int 1), (.ref b2)]))) (fun t k => XS.iload X9.here hx rfl (hb hby d2_80) rfl (XS.lloadN X9.here hx rfl (hb hby d2_82) rfl k)) ?_
  have vq10 := V7
  obtain ⟨cl10, Ar10, qa10, qs10, qn10, qh10, qg10⟩ := vq10
  have hin10 : ¬ ((1 : Int32) < 0 ∨ cl10.slots.size ≤ ((1 : Int32)).toNatClampNeg) := inb_of qs10 ⟨by decide, by decide⟩
  obtain ⟨T10, h10, X10, e10, W10, st10⟩ := stJ X9 hx hZ e9 Ar10 (j := (1 : Int32)) hin10 (g := (mkF m 83 #[.val (.ref ar), .val (.int md), .val (.int 2), .val (.long ((1 : Int64) * (md).toInt64)), .second, .val (.int 1)] [(.long ((1 : Int64) * (md).toInt64)), (.int 1), (.ref b2)])) rfl rfl (hb hby d2_83)
  have V10 : Arv Z h10 b2 k2 .long (2 : Int32) [(.long (1 : Int64)), (.long ((1 : Int64) * (md).toInt64))] (.long (0 : Int64)) := Arv.set Ar10 qa10 qs10 qn10 qh10 qg10 rfl W10 1 rfl (Nat.le_of_ble_eq_true rfl)
  have f11_0 := Nat.le_trans f8_0 (Keep.of_wr W10).1
  have f11_1 := f8_1.wr W10
  have f11_2 := f8_2.other W10 (Or.inl ne_ar_b2)
  have f11_3 := f8_3.other W10 (Or.inl ne_ar_b2)
  have f11_4 := f8_4.other W10 (Or.inl ne_ar_b2)
  have f11_5 := f8_5.wr W10 (Or.inr sz_b2)
  have f11_6 := f8_6.other W10 (Or.inl ne_ar_b2)
  have N10 := Fr.snoc X10 N7 g_b2
  refine Wp.back (U' := (T10.setTop (mkF m 84 #[.val (.ref ar), .val (.int md), .val (.int 2), .val (.long ((1 : Int64) * (md).toInt64)), .second, .val (.int 1)] []))) st10 ?_
  refine Wp.back (U' := (T10.setTop (mkF m 97 #[.val (.ref ar), .val (.int md), .val (.int 2), .val (.long (((1 : Int64) * (md).toInt64) * (md).toInt64)), .second, .val (.int 2)] [(.int md), (.ref ar)]))) (fun t k => XS.lloadN X10.here hx rfl (hb hby d2_84) rfl (XS.iloadN X10.here hx rfl (hb hby d2_85) rfl (XS.i2l X10.here hx rfl (hb hby d2_86) rfl (XS.lmul X10.here hx rfl (hb hby d2_87) rfl (XS.lstoreN X10.here hx rfl (hb hby d2_88) rfl (l' := #[.val (.ref ar), .val (.int md), .val (.int 2), .val (.long (((1 : Int64) * (md).toInt64) * (md).toInt64)), .second, .val (.int 1)]) rfl (XT.iincV X10.here hx rfl 1 (hb hby d2_89) (by decide) rfl (l' := #[.val (.ref ar), .val (.int md), .val (.int 2), .val (.long (((1 : Int64) * (md).toInt64) * (md).toInt64)), .second, .val (.int 2)]) rfl (XS.goto X10.here hx rfl (pc0 := 92) (pc' := 53) rfl (hb hby d2_92) (by decide) (by decide) (XS.iload X10.here hx rfl (hb hby d2_53) rfl (XS.iloadN X10.here hx rfl (hb hby d2_55) rfl (XS.icmpYes X10.here hx rfl (pc0 := 56) (pc' := 95) rfl (hb hby d2_56) rfl (flt (by decide)).2.1 (by decide) (by decide) (XS.aloadN X10.here hx rfl (hb hby d2_95) rfl rfl (XS.iloadN X10.here hx rfl (hb hby d2_96) rfl k)))))))))))) ?_
  obtain ⟨T12, h12, X12, e12, W12, st12⟩ := putF X10 hx hZ hown (host := "") (Or.inl (ow hw 17 rfl)) Via.refl e10 f11_2 f11_1 (Or.inr ⟨(ow hw 18 rfl), rfl, hnm⟩) (ow hw 5 rfl) (ty := .int) (by decide) rfl rfl (g := (mkF m 97 #[.val (.ref ar), .val (.int md), .val (.int 2), .val (.long (((1 : Int64) * (md).toInt64) * (md).toInt64)), .second, .val (.int 2)] [(.int md), (.ref ar)])) rfl rfl (hb hby d2_97)
  have Fw12 := f11_2.same W12
  have f13_0 := Nat.le_trans f11_0 (Keep.of_wr W12).1
  have f13_1 := f11_1.wr W12
  have f13_2 := f11_3.other W12 (Or.inr (slot_ne (Or.inr (ow hw 20 rfl)) (Or.inr (ow hw 18 rfl)) (by decide) (t := .int) (t' := .int) (by decide) (by decide)))
  have f13_3 := f11_4.other W12 (Or.inr (slot_ne (Or.inr (ow hw 31 rfl)) (Or.inr (ow hw 18 rfl)) (by decide) (t := .int) (t' := .int) (by decide) (by decide)))
  have f13_4 := f11_5.wr W12 (Or.inl (List.mem_of_getElem? (i := 0) rfl))
  have f13_5 := f11_6.other W12 (Or.inr (slot_ne (Or.inr (ow hw 15 rfl)) (Or.inr (ow hw 18 rfl)) (by decide) (t := (.array .long)) (t' := .int) (by decide) (by decide)))
  have f13_6 := V10.other W12 (Ne.symm ne_ar_b2)
  have N12 := Fr.snoc X12 N10 g_ar
  refine Wp.back (U' := (T12.setTop (mkF m 100 #[.val (.ref ar), .val (.int md), .val (.int 2), .val (.long (((1 : Int64) * (md).toInt64) * (md).toInt64)), .second, .val (.int 2)] []))) st12 ?_
  refine Wp.back (U' := (T12.setTop (mkF m 102 #[.val (.ref ar), .val (.int md), .val (.int 2), .val (.long (((1 : Int64) * (md).toInt64) * (md).toInt64)), .second, .val (.int 2)] [(.int 2), (.ref ar)]))) (fun t k => XS.aloadN X12.here hx rfl (hb hby d2_100) rfl rfl (XS.iloadN X12.here hx rfl (hb hby d2_101) rfl k)) ?_
  obtain ⟨T14, h14, X14, e14, W14, st14⟩ := putF X12 hx hZ hown (host := "") (Or.inl (ow hw 19 rfl)) Via.refl e12 f13_2 f13_1 (Or.inr ⟨(ow hw 20 rfl), rfl, hnm⟩) (ow hw 5 rfl) (ty := .int) (by decide) rfl rfl (g := (mkF m 102 #[.val (.ref ar), .val (.int md), .val (.int 2), .val (.long (((1 : Int64) * (md).toInt64) * (md).toInt64)), .second, .val (.int 2)] [(.int 2), (.ref ar)])) rfl rfl (hb hby d2_102)
  have Fw14 := f13_2.same W14
  have f15_0 := Nat.le_trans f13_0 (Keep.of_wr W14).1
  have f15_1 := f13_1.wr W14
  have f15_2 := f13_3.other W14 (Or.inr (slot_ne (Or.inr (ow hw 31 rfl)) (Or.inr (ow hw 20 rfl)) (by decide) (t := .int) (t' := .int) (by decide) (by decide)))
  have f15_3 := f13_4.wr W14 (Or.inl (List.mem_of_getElem? (i := 0) rfl))
  have f15_4 := f13_5.other W14 (Or.inr (slot_ne (Or.inr (ow hw 15 rfl)) (Or.inr (ow hw 20 rfl)) (by decide) (t := (.array .long)) (t' := .int) (by decide) (by decide)))
  have f15_5 := f13_6.other W14 (Ne.symm ne_ar_b2)
  have f15_6 := Fw12.other W14 (Or.inr (slot_ne (Or.inr (ow hw 18 rfl)) (Or.inr (ow hw 20 rfl)) (by decide) (t := .int) (t' := .int) (by decide) (by decide)))
  have N14 := Fr.snoc X14 N12 g_ar
  refine Wp.back (U' := (T14.setTop (mkF m 105 #[.val (.ref ar), .val (.int md), .val (.int 2), .val (.long (((1 : Int64) * (md).toInt64) * (md).toInt64)), .second, .val (.int 2)] []))) st14 ?_
  refine Wp.back (U' := (T14.setTop (mkF m 111 #[.val (.ref ar), .val (.int md), .val (.int 2), .val (.long (((1 : Int64) * (md).toInt64) * (md).toInt64)), .second, .val (.int 2)] [(.long ((((1 : Int64) * (md).toInt64) * (md).toInt64) - (1 : Int64))), (.int 64), (.ref ar)]))) (fun t k => XS.aloadN X14.here hx rfl (hb hby d2_105) rfl rfl (XT.bipushV X14.here hx rfl 64 (hb hby d2_106) (by decide) (XS.lloadN X14.here hx rfl (hb hby d2_108) rfl (XT.lconstV X14.here hx rfl (1 : Int64) (hb hby d2_109) (by decide) (XS.lsub X14.here hx rfl (hb hby d2_110) rfl k))))) ?_
  obtain ⟨_, _, ⟨T16, L16, k16, n16⟩, -, X16, ⟨Lc16, hQ16, l16, y16, z16⟩, st16⟩ := Jvm.LawKit.callS X14 hx (y := Y1) hown (mvT hZ (ow hw 21 rfl)) (mvT hZ (ow hw 22 rfl)) (mvT hZ (ow hw 23 rfl)) (mvT hZ (ow hw 24 rfl)) (by decide) (backOf (W := 2) (rm_f_lnz l Z a0 hw [] ((((1 : Int64) * (md).toInt64) * (md).toInt64) - (1 : Int64)) h14 n0 f15_0 ) hZ (ow hw 24 rfl) (ow hw 23 rfl) (by decide) (by decide)) (g := (mkF m 111 #[.val (.ref ar), .val (.int md), .val (.int 2), .val (.long (((1 : Int64) * (md).toInt64) * (md).toInt64)), .second, .val (.int 2)] [(.long ((((1 : Int64) * (md).toInt64) * (md).toInt64) - (1 : Int64))), (.int 64), (.ref ar)])) rfl (by rw [hml]; rfl) (argsL := [(.long ((((1 : Int64) * (md).toInt64) * (md).toInt64) - (1 : Int64)))]) (rest := [(.int 64), (.ref ar)]) (lenOf pd_2 rfl) rfl (Nat.le_of_eq rfl) (hb hby d2_111) (fun _ _ => ⟨rfl, e14, (by decide : 1 + 0 ≤ _), (by decide : 2 + 0 ≤ _)⟩)
  dsimp only [Pt.U, Pt.locs, Pt.cells, Pt.slots] at X16 l16 y16 z16 st16 hQ16
  subst l16 y16 z16
  obtain ⟨rfl, N16q, e16⟩ := hQ16
  have N16 := Fr.app N14 N16q
  refine Wp.back (U' := (T16.setTop (mkF m 114 #[.val (.ref ar), .val (.int md), .val (.int 2), .val (.long (((1 : Int64) * (md).toInt64) * (md).toInt64)), .second, .val (.int 2)] [(.int (f_lnz ((((1 : Int64) * (md).toInt64) * (md).toInt64) - (1 : Int64)))), (.int 64), (.ref ar)]))) st16 ?_
  refine Wp.back (U' := (T16.setTop (mkF m 115 #[.val (.ref ar), .val (.int md), .val (.int 2), .val (.long (((1 : Int64) * (md).toInt64) * (md).toInt64)), .second, .val (.int 2)] [(.int ((64 : Int32) - (f_lnz ((((1 : Int64) * (md).toInt64) * (md).toInt64) - (1 : Int64))))), (.ref ar)]))) (fun t k => XS.isub X16.here hx rfl (hb hby d2_114) rfl k) ?_
  obtain ⟨T17, h17, X17, e17, W17, st17⟩ := putF X16 hx hZ hown (host := "") (Or.inl (ow hw 30 rfl)) Via.refl e16 f15_2 f15_1 (Or.inr ⟨(ow hw 31 rfl), rfl, hnm⟩) (ow hw 5 rfl) (ty := .int) (by decide) rfl rfl (g := (mkF m 115 #[.val (.ref ar), .val (.int md), .val (.int 2), .val (.long (((1 : Int64) * (md).toInt64) * (md).toInt64)), .second, .val (.int 2)] [(.int ((64 : Int32) - (f_lnz ((((1 : Int64) * (md).toInt64) * (md).toInt64) - (1 : Int64))))), (.ref ar)])) rfl rfl (hb hby d2_115)
  have Fw17 := f15_2.same W17
  have f18_0 := Nat.le_trans f15_0 (Keep.of_wr W17).1
  have f18_1 := f15_1.wr W17
  have f18_2 := f15_3.wr W17 (Or.inl (List.mem_of_getElem? (i := 0) rfl))
  have f18_3 := f15_4.other W17 (Or.inr (slot_ne (Or.inr (ow hw 15 rfl)) (Or.inr (ow hw 31 rfl)) (by decide) (t := (.array .long)) (t' := .int) (by decide) (by decide)))
  have f18_4 := f15_5.other W17 (Ne.symm ne_ar_b2)
  have f18_5 := f15_6.other W17 (Or.inr (slot_ne (Or.inr (ow hw 18 rfl)) (Or.inr (ow hw 31 rfl)) (by decide) (t := .int) (t' := .int) (by decide) (by decide)))
  have f18_6 := Fw14.other W17 (Or.inr (slot_ne (Or.inr (ow hw 20 rfl)) (Or.inr (ow hw 31 rfl)) (by decide) (t := .int) (t' := .int) (by decide) (by decide)))
  have N17 := Fr.snoc X17 N16 g_ar
  refine Wp.back (U' := (T17.setTop (mkF m 118 #[.val (.ref ar), .val (.int md), .val (.int 2), .val (.long (((1 : Int64) * (md).toInt64) * (md).toInt64)), .second, .val (.int 2)] []))) st17 ?_
  obtain ⟨fs, hr, hrun, hended, hW, hsame⟩ := X17.leave (v := none) (fun _ => rfl)
  refine Wp.done (X17.returnOut hx hret (hb hby d2_118) hr) hrun hended ⟨_, _, rfl, ?_, ⟨_, rfl⟩, hW, hsame.mono (by decide) (by decide)⟩
  show Q_ini2 Z ar md h0 n0 _ T17.heap _
  rw [e17]
  exact ⟨b2, k2, rfl, N17, f18_2, sz_b2, f18_1, f18_3, f18_6, Fw17, f18_4⟩
def Q_ini3 (Z : State) (ar : Addr) (md : Int32)  (h0 : Heap) (n0 : Nat) (v : Option Value) (h : Heap) (L : List Loc) : Prop := ∃ fr0 : Addr, ∃ fk0 : ClassId, v = none ∧ Fr n0 L ∧ Keep h0 h [ar] ∧ h0.size ≤ fr0 ∧ Exa Z h ar "com/example/known_leaks/knownleaks/CellPacking" ∧ Fld Z h ar "com/example/known_leaks/knownleaks/CellPacking" "powers" "[J" (.ref fr0) ∧ Fld Z h ar "com/example/known_leaks/knownleaks/CellPacking" "cellsPerBlock" "I" (.int 3) ∧ Fld Z h ar "com/example/known_leaks/knownleaks/CellPacking" "blockBits" "I" (.int ((64 : Int32) - (f_lnz (((((1 : Int64) * (md).toInt64) * (md).toInt64) * (md).toInt64) - (1 : Int64))))) ∧ Arv Z h fr0 fk0 .long (3 : Int32) [(.long (1 : Int64)), (.long ((1 : Int64) * (md).toInt64)), (.long (((1 : Int64) * (md).toInt64) * (md).toInt64))] (.long (0 : Int64))
set_option maxRecDepth 65536 in
set_option maxHeartbeats 40000000 in
theorem rm_ini3 (l : Launch) (Z : State) (a0 : Array Value) (hw : ∀ d ∈ tables_1, d.before a0 Z = true) (ws : List Jvm.Cond) (ar : Addr) (md : Int32)  (h0 : Heap) (n0 : Nat) (Z0 : n0 ≤ h0.size) (H0 : Exa Z h0 ar "com/example/known_leaks/knownleaks/CellPacking") (H1 : Fld Z h0 ar "com/example/known_leaks/knownleaks/CellPacking" "powers" "[J" .null) (H2 : Fld Z h0 ar "com/example/known_leaks/knownleaks/CellPacking" "modulus" "I" (.int 0)) (H3 : Fld Z h0 ar "com/example/known_leaks/knownleaks/CellPacking" "cellsPerBlock" "I" (.int 0)) (H4 : Fld Z h0 ar "com/example/known_leaks/knownleaks/CellPacking" "blockBits" "I" (.int 0)) (g_ar : n0 ≤ ar) (h2 : ¬ md < (2 : Int32)) (hnz : (md).toInt64 ≠ 0) (hp0 : ¬ ((144115188075855872 : Int64) / (md).toInt64) < (1 : Int64)) (hp1 : ¬ ((144115188075855872 : Int64) / (md).toInt64) < ((1 : Int64) * (md).toInt64)) (hp2 : ¬ ((144115188075855872 : Int64) / (md).toInt64) < (((1 : Int64) * (md).toInt64) * (md).toInt64)) :
    Met l Z Y6 prog_4_method_1_code 6 none ws ({ frames := 2, cells := 1, slots := 5, locals := 30 } : Room) #[(.ref ar), (.int md), (.int 3)] h0 (Q_ini3 Z ar md h0 n0) := by
  refine own_body (plainFor_of_name pn2) ?_
  intro p e s m below meth c s₁ hx hby hret hlk hml hZ hown hnm X0 e0
  have N0 := Fr.nil n0
  refine Wp.back (U' := (s₁.setTop (mkF m 0 #[.val (.ref ar), .val (.int md), .val (.int 3), .unset, .unset, .unset] []))) (fun t k => castTop (ef2_RII m ar md (3 : Int32)) k) ?_
  refine Wp.back (U' := (s₁.setTop (mkF m 1 #[.val (.ref ar), .val (.int md), .val (.int 3), .unset, .unset, .unset] [(.ref ar)]))) (fun t k => XS.aloadN X0.here hx rfl (hb hby d2_0) rfl rfl k) ?_
  obtain ⟨T1, X1, e1, st1⟩ := initO X0 hx hZ hown (ow hw 10 rfl) (ow hw 11 rfl) (ow hw 12 rfl) e0 (g := (mkF m 1 #[.val (.ref ar), .val (.int md), .val (.int 3), .unset, .unset, .unset] [(.ref ar)])) rfl (by rw [hml]; rfl) rfl (hb hby d2_1) (by decide) (W := 0) (Nat.le_of_eq rfl) (by decide)
  refine Wp.back (U' := (T1.setTop (mkF m 4 #[.val (.ref ar), .val (.int md), .val (.int 3), .unset, .unset, .unset] []))) st1 ?_
  refine Wp.back (U' := (T1.setTop (mkF m 43 #[.val (.ref ar), .val (.int md), .val (.int 3), .unset, .unset, .unset] [(.int 3), (.ref ar)]))) (fun t k => XS.iloadN X1.here hx rfl (hb hby d2_4) rfl (XT.iconstV X1.here hx rfl 2 (hb hby d2_5) (by decide) (XS.icmpNo X1.here hx rfl (hb hby d2_6) rfl (flt h2).1 (XS.iloadN X1.here hx rfl (hb hby d2_9) rfl (XT.iconstV X1.here hx rfl 1 (hb hby d2_10) (by decide) (XS.icmpYes X1.here hx rfl (pc0 := 11) (pc' := 29) rfl (hb hby d2_11) rfl (flt (by decide)).2.1 (by decide) (by decide) (XS.iloadN X1.here hx rfl (hb hby d2_29) rfl (XT.bipushV X1.here hx rfl 57 (hb hby d2_30) (by decide) (XS.icmpYes X1.here hx rfl (pc0 := 32) (pc' := 41) rfl (hb hby d2_32) rfl (flt (by decide)).2.2.2 (by decide) (by decide) (XS.aloadN X1.here hx rfl (hb hby d2_41) rfl rfl (XS.iloadN X1.here hx rfl (hb hby d2_42) rfl k))))))))))) ?_
  obtain ⟨T2, h2, k2, X2, e2, E2, A2, st2⟩ := newP X1 hx hZ (ow hw 13 rfl) e1 (g := (mkF m 43 #[.val (.ref ar), .val (.int md), .val (.int 3), .unset, .unset, .unset] [(.int 3), (.ref ar)])) rfl (hb hby d2_43) rfl (by decide) (cap := 3) (by decide) (by decide) (by decide) (by decide)
  obtain ⟨b2, g2⟩ : ∃ z, z = h0.size := ⟨_, rfl⟩
  rw [← g2] at A2 st2
  have ne_ar_b2 : ar ≠ b2 := Nat.ne_of_lt (Nat.lt_of_lt_of_le H0.lt (Nat.le_of_eq g2.symm))
  have g_b2 : n0 ≤ b2 := Nat.le_trans Z0 (Nat.le_of_eq g2.symm)
  have sz_b2 : h0.size ≤ b2 := Nat.le_trans (Keep.refl h0 [ar]).1 (Nat.le_of_eq g2.symm)
  have f3_0 := Nat.le_trans Z0 E2.1
  have f3_1 := H0.ext E2
  have f3_2 := H1.ext E2
  have f3_3 := H2.ext E2
  have f3_4 := H3.ext E2
  have f3_5 := H4.ext E2
  have f3_6 := (Keep.refl h0 [ar]).ext E2
  have V2 : Arv Z h2 b2 k2 .long (3 : Int32) [(.long (0 : Int64)), (.long (0 : Int64)), (.long (0 : Int64))] (.long (0 : Int64)) := (Arv.new A2 (by decide)).pad (pad_rep [] (.long (0 : Int64)) 3)
  refine Wp.back (U' := (T2.setTop (mkF m 45 #[.val (.ref ar), .val (.int md), .val (.int 3), .unset, .unset, .unset] [(.ref b2), (.ref ar)]))) st2 ?_
  obtain ⟨T4, h4, X4, e4, W4, st4⟩ := putF X2 hx hZ hown (host := "") (Or.inl (ow hw 14 rfl)) Via.refl e2 f3_2 f3_1 (Or.inr ⟨(ow hw 15 rfl), rfl, hnm⟩) (ow hw 5 rfl) (ty := (.array .long)) (by decide) rfl rfl (g := (mkF m 45 #[.val (.ref ar), .val (.int md), .val (.int 3), .unset, .unset, .unset] [(.ref b2), (.ref ar)])) rfl rfl (hb hby d2_45)
  have Fw4 := f3_2.same W4
  have f5_0 := Nat.le_trans f3_0 (Keep.of_wr W4).1
  have f5_1 := f3_1.wr W4
  have f5_2 := f3_3.other W4 (Or.inr (slot_ne (Or.inr (ow hw 18 rfl)) (Or.inr (ow hw 15 rfl)) (by decide) (t := .int) (t' := (.array .long)) (by decide) (by decide)))
  have f5_3 := f3_4.other W4 (Or.inr (slot_ne (Or.inr (ow hw 20 rfl)) (Or.inr (ow hw 15 rfl)) (by decide) (t := .int) (t' := (.array .long)) (by decide) (by decide)))
  have f5_4 := f3_5.other W4 (Or.inr (slot_ne (Or.inr (ow hw 31 rfl)) (Or.inr (ow hw 15 rfl)) (by decide) (t := .int) (t' := (.array .long)) (by decide) (by decide)))
  have f5_5 := f3_6.wr W4 (Or.inl (List.mem_of_getElem? (i := 0) rfl))
  have f5_6 := V2.other W4 (Ne.symm ne_ar_b2)
  have N4 := Fr.snoc X4 N0 g_ar
  refine Wp.back (U' := (T4.setTop (mkF m 48 #[.val (.ref ar), .val (.int md), .val (.int 3), .unset, .unset, .unset] []))) st4 ?_
  refine Wp.back (U' := (T4.setTop (mkF m 66 #[.val (.ref ar), .val (.int md), .val (.int 3), .val (.long (1 : Int64)), .second, .val (.int 0)] [(.long ((144115188075855872 : Int64) / (md).toInt64)), (.long (1 : Int64))]))) (fun t k => XT.lconstV X4.here hx rfl (1 : Int64) (hb hby d2_48) (by decide) (XS.lstoreN X4.here hx rfl (hb hby d2_49) rfl (l' := #[.val (.ref ar), .val (.int md), .val (.int 3), .val (.long (1 : Int64)), .second, .unset]) rfl (XT.iconstV X4.here hx rfl 0 (hb hby d2_50) (by decide) (XS.istore X4.here hx rfl (hb hby d2_51) rfl (l' := #[.val (.ref ar), .val (.int md), .val (.int 3), .val (.long (1 : Int64)), .second, .val (.int 0)]) rfl (XS.iload X4.here hx rfl (hb hby d2_53) rfl (XS.iloadN X4.here hx rfl (hb hby d2_55) rfl (XS.icmpNo X4.here hx rfl (hb hby d2_56) rfl (tlt (by decide)).2.1 (XS.lloadN X4.here hx rfl (hb hby d2_59) rfl (Jvm.Stand.ldc2J X4 hx hown (mvT hZ (ow hw 16 rfl)) rfl (hb hby d2_60) (XS.iloadN X4.here hx rfl (hb hby d2_63) rfl (XS.i2l X4.here hx rfl (hb hby d2_64) rfl (XS.ldiv X4.here hx rfl (hb hby d2_65) rfl hnz k)))))))))))) ?_
  refine Wp.back (U' := (T4.setTop (mkF m 77 #[.val (.ref ar), .val (.int md), .val (.int 3), .val (.long (1 : Int64)), .second, .val (.int 0)] [(.ref ar)]))) (fun t k => XS.lcmp X4.here hx rfl (hb hby d2_66) rfl (XS.ifYes X4.here hx rfl (pc0 := 67) (pc' := 76) rfl (hb hby d2_67) rfl ((if0 _ _).trans (flt (fun q => hp0 ((lw_gt (1 : Int64) ((144115188075855872 : Int64) / (md).toInt64)).mp q))).2.2.2) (by decide) (by decide) (XS.aloadN X4.here hx rfl (hb hby d2_76) rfl rfl k))) ?_
  obtain ⟨T6, X6, e6, st6⟩ := getF X4 hx hZ hown (host := "") (Or.inl (ow hw 14 rfl)) Via.refl e4 Fw4 (g := (mkF m 77 #[.val (.ref ar), .val (.int md), .val (.int 3), .val (.long (1 : Int64)), .second, .val (.int 0)] [(.ref ar)])) rfl rfl (hb hby d2_77)
  refine Wp.back (U' := (T6.setTop (mkF m 80 #[.val (.ref ar), .val (.int md), .val (.int 3), .val (.long (1 : Int64)), .second, .val (.int 0)] [(.ref b2)]))) st6 ?_
  refine Wp.back (U' := (T6.setTop (mkF m 83 #[.val (.ref ar), .val (.int md), .val (.int 3), .val (.long (1 : Int64)), .second, .val (.int 0)] [(.long (1 : Int64)), (.int 0), (.ref b2)]))) (fun t k => XS.iload X6.here hx rfl (hb hby d2_80) rfl (XS.lloadN X6.here hx rfl (hb hby d2_82) rfl k)) ?_
  have vq7 := f5_6
  obtain ⟨cl7, Ar7, qa7, qs7, qn7, qh7, qg7⟩ := vq7
  have hin7 : ¬ ((0 : Int32) < 0 ∨ cl7.slots.size ≤ ((0 : Int32)).toNatClampNeg) := inb_of qs7 ⟨by decide, by decide⟩
  obtain ⟨T7, h7, X7, e7, W7, st7⟩ := stJ X6 hx hZ e6 Ar7 (j := (0 : Int32)) hin7 (g := (mkF m 83 #[.val (.ref ar), .val (.int md), .val (.int 3), .val (.long (1 : Int64)), .second, .val (.int 0)] [(.long (1 : Int64)), (.int 0), (.ref b2)])) rfl rfl (hb hby d2_83)
  have V7 : Arv Z h7 b2 k2 .long (3 : Int32) [(.long (1 : Int64)), (.long (0 : Int64)), (.long (0 : Int64))] (.long (0 : Int64)) := Arv.set Ar7 qa7 qs7 qn7 qh7 qg7 rfl W7 0 rfl (Nat.le_of_ble_eq_true rfl)
  have f8_0 := Nat.le_trans f5_0 (Keep.of_wr W7).1
  have f8_1 := f5_1.wr W7
  have f8_2 := f5_2.other W7 (Or.inl ne_ar_b2)
  have f8_3 := f5_3.other W7 (Or.inl ne_ar_b2)
  have f8_4 := f5_4.other W7 (Or.inl ne_ar_b2)
  have f8_5 := f5_5.wr W7 (Or.inr sz_b2)
  have f8_6 := Fw4.other W7 (Or.inl ne_ar_b2)
  have N7 := Fr.snoc X7 N4 g_b2
  refine Wp.back (U' := (T7.setTop (mkF m 84 #[.val (.ref ar), .val (.int md), .val (.int 3), .val (.long (1 : Int64)), .second, .val (.int 0)] []))) st7 ?_
  refine Wp.back (U' := (T7.setTop (mkF m 63 #[.val (.ref ar), .val (.int md), .val (.int 3), .val (.long ((1 : Int64) * (md).toInt64)), .second, .val (.int 1)] [(.long (144115188075855872 : Int64)), (.long ((1 : Int64) * (md).toInt64))]))) (fun t k => XS.lloadN X7.here hx rfl (hb hby d2_84) rfl (XS.iloadN X7.here hx rfl (hb hby d2_85) rfl (XS.i2l X7.here hx rfl (hb hby d2_86) rfl (XS.lmul X7.here hx rfl (hb hby d2_87) rfl (XS.lstoreN X7.here hx rfl (hb hby d2_88) rfl (l' := #[.val (.ref ar), .val (.int md), .val (.int 3), .val (.long ((1 : Int64) * (md).toInt64)), .second, .val (.int 0)]) rfl (XT.iincV X7.here hx rfl 1 (hb hby d2_89) (by decide) rfl (l' := #[.val (.ref ar), .val (.int md), .val (.int 3), .val (.long ((1 : Int64) * (md).toInt64)), .second, .val (.int 1)]) rfl (XS.goto X7.here hx rfl (pc0 := 92) (pc' := 53) rfl (hb hby d2_92) (by decide) (by decide) (XS.iload X7.here hx rfl (hb hby d2_53) rfl (XS.iloadN X7.here hx rfl (hb hby d2_55) rfl (XS.icmpNo X7.here hx rfl (hb hby d2_56) rfl (tlt (by decide)).2.1 (XS.lloadN X7.here hx rfl (hb hby d2_59) rfl (Jvm.Stand.ldc2J X7 hx hown (mvT hZ (ow hw 16 rfl)) rfl (hb hby d2_60) k)))))))))))) ?_
  refine Wp.back (U' := (T7.setTop (mkF m 77 #[.val (.ref ar), .val (.int md), .val (.int 3), .val (.long ((1 : Int64) * (md).toInt64)), .second, .val (.int 1)] [(.ref ar)]))) (fun t k => XS.iloadN X7.here hx rfl (hb hby d2_63) rfl (XS.i2l X7.here hx rfl (hb hby d2_64) rfl (XS.ldiv X7.here hx rfl (hb hby d2_65) rfl hnz (XS.lcmp X7.here hx rfl (hb hby d2_66) rfl (XS.ifYes X7.here hx rfl (pc0 := 67) (pc' := 76) rfl (hb hby d2_67) rfl ((if0 _ _).trans (flt (fun q => hp1 ((lw_gt ((1 : Int64) * (md).toInt64) ((144115188075855872 : Int64) / (md).toInt64)).mp q))).2.2.2) (by decide) (by decide) (XS.aloadN X7.here hx rfl (hb hby d2_76) rfl rfl k)))))) ?_
  obtain ⟨T9, X9, e9, st9⟩ := getF X7 hx hZ hown (host := "") (Or.inl (ow hw 14 rfl)) Via.refl e7 f8_6 (g := (mkF m 77 #[.val (.ref ar), .val (.int md), .val (.int 3), .val (.long ((1 : Int64) * (md).toInt64)), .second, .val (.int 1)] [(.ref ar)])) rfl rfl (hb hby d2_77)
  refine Wp.back (U' := (T9.setTop (mkF m 80 #[.val (.ref ar), .val (.int md), .val (.int 3), .val (.long ((1 : Int64) * (md).toInt64)), .second, .val (.int 1)] [(.ref b2)]))) st9 ?_
  refine Wp.back (U' := (T9.setTop (mkF m 83 #[.val (.ref ar), .val (.int md), .val (.int 3), .val (.long ((1 : Int64) * (md).toInt64)), .second, .val (.int 1)] [(.long ((1 : Int64) * (md).toInt64)), (.int 1), (.ref b2)]))) (fun t k => XS.iload X9.here hx rfl (hb hby d2_80) rfl (XS.lloadN X9.here hx rfl (hb hby d2_82) rfl k)) ?_
  have vq10 := V7
  obtain ⟨cl10, Ar10, qa10, qs10, qn10, qh10, qg10⟩ := vq10
  have hin10 : ¬ ((1 : Int32) < 0 ∨ cl10.slots.size ≤ ((1 : Int32)).toNatClampNeg) := inb_of qs10 ⟨by decide, by decide⟩
  obtain ⟨T10, h10, X10, e10, W10, st10⟩ := stJ X9 hx hZ e9 Ar10 (j := (1 : Int32)) hin10 (g := (mkF m 83 #[.val (.ref ar), .val (.int md), .val (.int 3), .val (.long ((1 : Int64) * (md).toInt64)), .second, .val (.int 1)] [(.long ((1 : Int64) * (md).toInt64)), (.int 1), (.ref b2)])) rfl rfl (hb hby d2_83)
  have V10 : Arv Z h10 b2 k2 .long (3 : Int32) [(.long (1 : Int64)), (.long ((1 : Int64) * (md).toInt64)), (.long (0 : Int64))] (.long (0 : Int64)) := Arv.set Ar10 qa10 qs10 qn10 qh10 qg10 rfl W10 1 rfl (Nat.le_of_ble_eq_true rfl)
  have f11_0 := Nat.le_trans f8_0 (Keep.of_wr W10).1
  have f11_1 := f8_1.wr W10
  have f11_2 := f8_2.other W10 (Or.inl ne_ar_b2)
  have f11_3 := f8_3.other W10 (Or.inl ne_ar_b2)
  have f11_4 := f8_4.other W10 (Or.inl ne_ar_b2)
  have f11_5 := f8_5.wr W10 (Or.inr sz_b2)
  have f11_6 := f8_6.other W10 (Or.inl ne_ar_b2)
  have N10 := Fr.snoc X10 N7 g_b2
  refine Wp.back (U' := (T10.setTop (mkF m 84 #[.val (.ref ar), .val (.int md), .val (.int 3), .val (.long ((1 : Int64) * (md).toInt64)), .second, .val (.int 1)] []))) st10 ?_
  refine Wp.back (U' := (T10.setTop (mkF m 63 #[.val (.ref ar), .val (.int md), .val (.int 3), .val (.long (((1 : Int64) * (md).toInt64) * (md).toInt64)), .second, .val (.int 2)] [(.long (144115188075855872 : Int64)), (.long (((1 : Int64) * (md).toInt64) * (md).toInt64))]))) (fun t k => XS.lloadN X10.here hx rfl (hb hby d2_84) rfl (XS.iloadN X10.here hx rfl (hb hby d2_85) rfl (XS.i2l X10.here hx rfl (hb hby d2_86) rfl (XS.lmul X10.here hx rfl (hb hby d2_87) rfl (XS.lstoreN X10.here hx rfl (hb hby d2_88) rfl (l' := #[.val (.ref ar), .val (.int md), .val (.int 3), .val (.long (((1 : Int64) * (md).toInt64) * (md).toInt64)), .second, .val (.int 1)]) rfl (XT.iincV X10.here hx rfl 1 (hb hby d2_89) (by decide) rfl (l' := #[.val (.ref ar), .val (.int md), .val (.int 3), .val (.long (((1 : Int64) * (md).toInt64) * (md).toInt64)), .second, .val (.int 2)]) rfl (XS.goto X10.here hx rfl (pc0 := 92) (pc' := 53) rfl (hb hby d2_92) (by decide) (by decide) (XS.iload X10.here hx rfl (hb hby d2_53) rfl (XS.iloadN X10.here hx rfl (hb hby d2_55) rfl (XS.icmpNo X10.here hx rfl (hb hby d2_56) rfl (tlt (by decide)).2.1 (XS.lloadN X10.here hx rfl (hb hby d2_59) rfl (Jvm.Stand.ldc2J X10 hx hown (mvT hZ (ow hw 16 rfl)) rfl (hb hby d2_60) k)))))))))))) ?_
  refine Wp.back (U' := (T10.setTop (mkF m 77 #[.val (.ref ar), .val (.int md), .val (.int 3), .val (.long (((1 : Int64) * (md).toInt64) * (md).toInt64)), .second, .val (.int 2)] [(.ref ar)]))) (fun t k => XS.iloadN X10.here hx rfl (hb hby d2_63) rfl (XS.i2l X10.here hx rfl (hb hby d2_64) rfl (XS.ldiv X10.here hx rfl (hb hby d2_65) rfl hnz (XS.lcmp X10.here hx rfl (hb hby d2_66) rfl (XS.ifYes X10.here hx rfl (pc0 := 67) (pc' := 76) rfl (hb hby d2_67) rfl ((if0 _ _).trans (flt (fun q => hp2 ((lw_gt (((1 : Int64) * (md).toInt64) * (md).toInt64) ((144115188075855872 : Int64) / (md).toInt64)).mp q))).2.2.2) (by decide) (by decide) (XS.aloadN X10.here hx rfl (hb hby d2_76) rfl rfl k)))))) ?_
  obtain ⟨T12, X12, e12, st12⟩ := getF X10 hx hZ hown (host := "") (Or.inl (ow hw 14 rfl)) Via.refl e10 f11_6 (g := (mkF m 77 #[.val (.ref ar), .val (.int md), .val (.int 3), .val (.long (((1 : Int64) * (md).toInt64) * (md).toInt64)), .second, .val (.int 2)] [(.ref ar)])) rfl rfl (hb hby d2_77)
  refine Wp.back (U' := (T12.setTop (mkF m 80 #[.val (.ref ar), .val (.int md), .val (.int 3), .val (.long (((1 : Int64) * (md).toInt64) * (md).toInt64)), .second, .val (.int 2)] [(.ref b2)]))) st12 ?_
  refine Wp.back (U' := (T12.setTop (mkF m 83 #[.val (.ref ar), .val (.int md), .val (.int 3), .val (.long (((1 : Int64) * (md).toInt64) * (md).toInt64)), .second, .val (.int 2)] [(.long (((1 : Int64) * (md).toInt64) * (md).toInt64)), (.int 2), (.ref b2)]))) (fun t k => XS.iload X12.here hx rfl (hb hby d2_80) rfl (XS.lloadN X12.here hx rfl (hb hby d2_82) rfl k)) ?_
  have vq13 := V10
  obtain ⟨cl13, Ar13, qa13, qs13, qn13, qh13, qg13⟩ := vq13
  have hin13 : ¬ ((2 : Int32) < 0 ∨ cl13.slots.size ≤ ((2 : Int32)).toNatClampNeg) := inb_of qs13 ⟨by decide, by decide⟩
  obtain ⟨T13, h13, X13, e13, W13, st13⟩ := stJ X12 hx hZ e12 Ar13 (j := (2 : Int32)) hin13 (g := (mkF m 83 #[.val (.ref ar), .val (.int md), .val (.int 3), .val (.long (((1 : Int64) * (md).toInt64) * (md).toInt64)), .second, .val (.int 2)] [(.long (((1 : Int64) * (md).toInt64) * (md).toInt64)), (.int 2), (.ref b2)])) rfl rfl (hb hby d2_83)
  have V13 : Arv Z h13 b2 k2 .long (3 : Int32) [(.long (1 : Int64)), (.long ((1 : Int64) * (md).toInt64)), (.long (((1 : Int64) * (md).toInt64) * (md).toInt64))] (.long (0 : Int64)) := Arv.set Ar13 qa13 qs13 qn13 qh13 qg13 rfl W13 2 rfl (Nat.le_of_ble_eq_true rfl)
  have f14_0 := Nat.le_trans f11_0 (Keep.of_wr W13).1
  have f14_1 := f11_1.wr W13
  have f14_2 := f11_2.other W13 (Or.inl ne_ar_b2)
  have f14_3 := f11_3.other W13 (Or.inl ne_ar_b2)
  have f14_4 := f11_4.other W13 (Or.inl ne_ar_b2)
  have f14_5 := f11_5.wr W13 (Or.inr sz_b2)
  have f14_6 := f11_6.other W13 (Or.inl ne_ar_b2)
  have N13 := Fr.snoc X13 N10 g_b2
  refine Wp.back (U' := (T13.setTop (mkF m 84 #[.val (.ref ar), .val (.int md), .val (.int 3), .val (.long (((1 : Int64) * (md).toInt64) * (md).toInt64)), .second, .val (.int 2)] []))) st13 ?_
  refine Wp.back (U' := (T13.setTop (mkF m 97 #[.val (.ref ar), .val (.int md), .val (.int 3), .val (.long ((((1 : Int64) * (md).toInt64) * (md).toInt64) * (md).toInt64)), .second, .val (.int 3)] [(.int md), (.ref ar)]))) (fun t k => XS.lloadN X13.here hx rfl (hb hby d2_84) rfl (XS.iloadN X13.here hx rfl (hb hby d2_85) rfl (XS.i2l X13.here hx rfl (hb hby d2_86) rfl (XS.lmul X13.here hx rfl (hb hby d2_87) rfl (XS.lstoreN X13.here hx rfl (hb hby d2_88) rfl (l' := #[.val (.ref ar), .val (.int md), .val (.int 3), .val (.long ((((1 : Int64) * (md).toInt64) * (md).toInt64) * (md).toInt64)), .second, .val (.int 2)]) rfl (XT.iincV X13.here hx rfl 1 (hb hby d2_89) (by decide) rfl (l' := #[.val (.ref ar), .val (.int md), .val (.int 3), .val (.long ((((1 : Int64) * (md).toInt64) * (md).toInt64) * (md).toInt64)), .second, .val (.int 3)]) rfl (XS.goto X13.here hx rfl (pc0 := 92) (pc' := 53) rfl (hb hby d2_92) (by decide) (by decide) (XS.iload X13.here hx rfl (hb hby d2_53) rfl (XS.iloadN X13.here hx rfl (hb hby d2_55) rfl (XS.icmpYes X13.here hx rfl (pc0 := 56) (pc' := 95) rfl (hb hby d2_56) rfl (flt (by decide)).2.1 (by decide) (by decide) (XS.aloadN X13.here hx rfl (hb hby d2_95) rfl rfl (XS.iloadN X13.here hx rfl (hb hby d2_96) rfl k)))))))))))) ?_
  obtain ⟨T15, h15, X15, e15, W15, st15⟩ := putF X13 hx hZ hown (host := "") (Or.inl (ow hw 17 rfl)) Via.refl e13 f14_2 f14_1 (Or.inr ⟨(ow hw 18 rfl), rfl, hnm⟩) (ow hw 5 rfl) (ty := .int) (by decide) rfl rfl (g := (mkF m 97 #[.val (.ref ar), .val (.int md), .val (.int 3), .val (.long ((((1 : Int64) * (md).toInt64) * (md).toInt64) * (md).toInt64)), .second, .val (.int 3)] [(.int md), (.ref ar)])) rfl rfl (hb hby d2_97)
  have Fw15 := f14_2.same W15
  have f16_0 := Nat.le_trans f14_0 (Keep.of_wr W15).1
  have f16_1 := f14_1.wr W15
  have f16_2 := f14_3.other W15 (Or.inr (slot_ne (Or.inr (ow hw 20 rfl)) (Or.inr (ow hw 18 rfl)) (by decide) (t := .int) (t' := .int) (by decide) (by decide)))
  have f16_3 := f14_4.other W15 (Or.inr (slot_ne (Or.inr (ow hw 31 rfl)) (Or.inr (ow hw 18 rfl)) (by decide) (t := .int) (t' := .int) (by decide) (by decide)))
  have f16_4 := f14_5.wr W15 (Or.inl (List.mem_of_getElem? (i := 0) rfl))
  have f16_5 := f14_6.other W15 (Or.inr (slot_ne (Or.inr (ow hw 15 rfl)) (Or.inr (ow hw 18 rfl)) (by decide) (t := (.array .long)) (t' := .int) (by decide) (by decide)))
  have f16_6 := V13.other W15 (Ne.symm ne_ar_b2)
  have N15 := Fr.snoc X15 N13 g_ar
  refine Wp.back (U' := (T15.setTop (mkF m 100 #[.val (.ref ar), .val (.int md), .val (.int 3), .val (.long ((((1 : Int64) * (md).toInt64) * (md).toInt64) * (md).toInt64)), .second, .val (.int 3)] []))) st15 ?_
  refine Wp.back (U' := (T15.setTop (mkF m 102 #[.val (.ref ar), .val (.int md), .val (.int 3), .val (.long ((((1 : Int64) * (md).toInt64) * (md).toInt64) * (md).toInt64)), .second, .val (.int 3)] [(.int 3), (.ref ar)]))) (fun t k => XS.aloadN X15.here hx rfl (hb hby d2_100) rfl rfl (XS.iloadN X15.here hx rfl (hb hby d2_101) rfl k)) ?_
  obtain ⟨T17, h17, X17, e17, W17, st17⟩ := putF X15 hx hZ hown (host := "") (Or.inl (ow hw 19 rfl)) Via.refl e15 f16_2 f16_1 (Or.inr ⟨(ow hw 20 rfl), rfl, hnm⟩) (ow hw 5 rfl) (ty := .int) (by decide) rfl rfl (g := (mkF m 102 #[.val (.ref ar), .val (.int md), .val (.int 3), .val (.long ((((1 : Int64) * (md).toInt64) * (md).toInt64) * (md).toInt64)), .second, .val (.int 3)] [(.int 3), (.ref ar)])) rfl rfl (hb hby d2_102)
  have Fw17 := f16_2.same W17
  have f18_0 := Nat.le_trans f16_0 (Keep.of_wr W17).1
  have f18_1 := f16_1.wr W17
  have f18_2 := f16_3.other W17 (Or.inr (slot_ne (Or.inr (ow hw 31 rfl)) (Or.inr (ow hw 20 rfl)) (by decide) (t := .int) (t' := .int) (by decide) (by decide)))
  have f18_3 := f16_4.wr W17 (Or.inl (List.mem_of_getElem? (i := 0) rfl))
  have f18_4 := f16_5.other W17 (Or.inr (slot_ne (Or.inr (ow hw 15 rfl)) (Or.inr (ow hw 20 rfl)) (by decide) (t := (.array .long)) (t' := .int) (by decide) (by decide)))
  have f18_5 := f16_6.other W17 (Ne.symm ne_ar_b2)
  have f18_6 := Fw15.other W17 (Or.inr (slot_ne (Or.inr (ow hw 18 rfl)) (Or.inr (ow hw 20 rfl)) (by decide) (t := .int) (t' := .int) (by decide) (by decide)))
  have N17 := Fr.snoc X17 N15 g_ar
  refine Wp.back (U' := (T17.setTop (mkF m 105 #[.val (.ref ar), .val (.int md), .val (.int 3), .val (.long ((((1 : Int64) * (md).toInt64) * (md).toInt64) * (md).toInt64)), .second, .val (.int 3)] []))) st17 ?_
  refine Wp.back (U' := (T17.setTop (mkF m 111 #[.val (.ref ar), .val (.int md), .val (.int 3), .val (.long ((((1 : Int64) * (md).toInt64) * (md).toInt64) * (md).toInt64)), .second, .val (.int 3)] [(.long (((((1 : Int64) * (md).toInt64) * (md).toInt64) * (md).toInt64) - (1 : Int64))), (.int 64), (.ref ar)]))) (fun t k => XS.aloadN X17.here hx rfl (hb hby d2_105) rfl rfl (XT.bipushV X17.here hx rfl 64 (hb hby d2_106) (by decide) (XS.lloadN X17.here hx rfl (hb hby d2_108) rfl (XT.lconstV X17.here hx rfl (1 : Int64) (hb hby d2_109) (by decide) (XS.lsub X17.here hx rfl (hb hby d2_110) rfl k))))) ?_
  obtain ⟨_, _, ⟨T19, L19, k19, n19⟩, -, X19, ⟨Lc19, hQ19, l19, y19, z19⟩, st19⟩ := Jvm.LawKit.callS X17 hx (y := Y1) hown (mvT hZ (ow hw 21 rfl)) (mvT hZ (ow hw 22 rfl)) (mvT hZ (ow hw 23 rfl)) (mvT hZ (ow hw 24 rfl)) (by decide) (backOf (W := 2) (rm_f_lnz l Z a0 hw [] (((((1 : Int64) * (md).toInt64) * (md).toInt64) * (md).toInt64) - (1 : Int64)) h17 n0 f18_0 ) hZ (ow hw 24 rfl) (ow hw 23 rfl) (by decide) (by decide)) (g := (mkF m 111 #[.val (.ref ar), .val (.int md), .val (.int 3), .val (.long ((((1 : Int64) * (md).toInt64) * (md).toInt64) * (md).toInt64)), .second, .val (.int 3)] [(.long (((((1 : Int64) * (md).toInt64) * (md).toInt64) * (md).toInt64) - (1 : Int64))), (.int 64), (.ref ar)])) rfl (by rw [hml]; rfl) (argsL := [(.long (((((1 : Int64) * (md).toInt64) * (md).toInt64) * (md).toInt64) - (1 : Int64)))]) (rest := [(.int 64), (.ref ar)]) (lenOf pd_2 rfl) rfl (Nat.le_of_eq rfl) (hb hby d2_111) (fun _ _ => ⟨rfl, e17, (by decide : 1 + 0 ≤ _), (by decide : 3 + 0 ≤ _)⟩)
  dsimp only [Pt.U, Pt.locs, Pt.cells, Pt.slots] at X19 l19 y19 z19 st19 hQ19
  subst l19 y19 z19
  obtain ⟨rfl, N19q, e19⟩ := hQ19
  have N19 := Fr.app N17 N19q
  refine Wp.back (U' := (T19.setTop (mkF m 114 #[.val (.ref ar), .val (.int md), .val (.int 3), .val (.long ((((1 : Int64) * (md).toInt64) * (md).toInt64) * (md).toInt64)), .second, .val (.int 3)] [(.int (f_lnz (((((1 : Int64) * (md).toInt64) * (md).toInt64) * (md).toInt64) - (1 : Int64)))), (.int 64), (.ref ar)]))) st19 ?_
  refine Wp.back (U' := (T19.setTop (mkF m 115 #[.val (.ref ar), .val (.int md), .val (.int 3), .val (.long ((((1 : Int64) * (md).toInt64) * (md).toInt64) * (md).toInt64)), .second, .val (.int 3)] [(.int ((64 : Int32) - (f_lnz (((((1 : Int64) * (md).toInt64) * (md).toInt64) * (md).toInt64) - (1 : Int64))))), (.ref ar)]))) (fun t k => XS.isub X19.here hx rfl (hb hby d2_114) rfl k) ?_
  obtain ⟨T20, h20, X20, e20, W20, st20⟩ := putF X19 hx hZ hown (host := "") (Or.inl (ow hw 30 rfl)) Via.refl e19 f18_2 f18_1 (Or.inr ⟨(ow hw 31 rfl), rfl, hnm⟩) (ow hw 5 rfl) (ty := .int) (by decide) rfl rfl (g := (mkF m 115 #[.val (.ref ar), .val (.int md), .val (.int 3), .val (.long ((((1 : Int64) * (md).toInt64) * (md).toInt64) * (md).toInt64)), .second, .val (.int 3)] [(.int ((64 : Int32) - (f_lnz (((((1 : Int64) * (md).toInt64) * (md).toInt64) * (md).toInt64) - (1 : Int64))))), (.ref ar)])) rfl rfl (hb hby d2_115)
  have Fw20 := f18_2.same W20
  have f21_0 := Nat.le_trans f18_0 (Keep.of_wr W20).1
  have f21_1 := f18_1.wr W20
  have f21_2 := f18_3.wr W20 (Or.inl (List.mem_of_getElem? (i := 0) rfl))
  have f21_3 := f18_4.other W20 (Or.inr (slot_ne (Or.inr (ow hw 15 rfl)) (Or.inr (ow hw 31 rfl)) (by decide) (t := (.array .long)) (t' := .int) (by decide) (by decide)))
  have f21_4 := f18_5.other W20 (Ne.symm ne_ar_b2)
  have f21_5 := f18_6.other W20 (Or.inr (slot_ne (Or.inr (ow hw 18 rfl)) (Or.inr (ow hw 31 rfl)) (by decide) (t := .int) (t' := .int) (by decide) (by decide)))
  have f21_6 := Fw17.other W20 (Or.inr (slot_ne (Or.inr (ow hw 20 rfl)) (Or.inr (ow hw 31 rfl)) (by decide) (t := .int) (t' := .int) (by decide) (by decide)))
  have N20 := Fr.snoc X20 N19 g_ar
  refine Wp.back (U' := (T20.setTop (mkF m 118 #[.val (.ref ar), .val (.int md), .val (.int 3), .val (.long ((((1 : Int64) * (md).toInt64) * (md).toInt64) * (md).toInt64)), .second, .val (.int 3)] []))) st20 ?_
  obtain ⟨fs, hr, hrun, hended, hW, hsame⟩ := X20.leave (v := none) (fun _ => rfl)
  refine Wp.done (X20.returnOut hx hret (hb hby d2_118) hr) hrun hended ⟨_, _, rfl, ?_, ⟨_, rfl⟩, hW, hsame.mono (by decide) (by decide)⟩
  show Q_ini3 Z ar md h0 n0 _ T20.heap _
  rw [e20]
  exact ⟨b2, k2, rfl, N20, f21_2, sz_b2, f21_1, f21_3, f21_6, Fw20, f21_4⟩
def Q_ini5 (Z : State) (ar : Addr) (md : Int32)  (h0 : Heap) (n0 : Nat) (v : Option Value) (h : Heap) (L : List Loc) : Prop := ∃ fr0 : Addr, ∃ fk0 : ClassId, v = none ∧ Fr n0 L ∧ Keep h0 h [ar] ∧ h0.size ≤ fr0 ∧ Exa Z h ar "com/example/known_leaks/knownleaks/CellPacking" ∧ Fld Z h ar "com/example/known_leaks/knownleaks/CellPacking" "powers" "[J" (.ref fr0) ∧ Fld Z h ar "com/example/known_leaks/knownleaks/CellPacking" "cellsPerBlock" "I" (.int 5) ∧ Fld Z h ar "com/example/known_leaks/knownleaks/CellPacking" "blockBits" "I" (.int ((64 : Int32) - (f_lnz (((((((1 : Int64) * (md).toInt64) * (md).toInt64) * (md).toInt64) * (md).toInt64) * (md).toInt64) - (1 : Int64))))) ∧ Arv Z h fr0 fk0 .long (5 : Int32) [(.long (1 : Int64)), (.long ((1 : Int64) * (md).toInt64)), (.long (((1 : Int64) * (md).toInt64) * (md).toInt64)), (.long ((((1 : Int64) * (md).toInt64) * (md).toInt64) * (md).toInt64)), (.long (((((1 : Int64) * (md).toInt64) * (md).toInt64) * (md).toInt64) * (md).toInt64))] (.long (0 : Int64))
set_option maxRecDepth 65536 in
set_option maxHeartbeats 40000000 in
theorem rm_ini5 (l : Launch) (Z : State) (a0 : Array Value) (hw : ∀ d ∈ tables_1, d.before a0 Z = true) (ws : List Jvm.Cond) (ar : Addr) (md : Int32)  (h0 : Heap) (n0 : Nat) (Z0 : n0 ≤ h0.size) (H0 : Exa Z h0 ar "com/example/known_leaks/knownleaks/CellPacking") (H1 : Fld Z h0 ar "com/example/known_leaks/knownleaks/CellPacking" "powers" "[J" .null) (H2 : Fld Z h0 ar "com/example/known_leaks/knownleaks/CellPacking" "modulus" "I" (.int 0)) (H3 : Fld Z h0 ar "com/example/known_leaks/knownleaks/CellPacking" "cellsPerBlock" "I" (.int 0)) (H4 : Fld Z h0 ar "com/example/known_leaks/knownleaks/CellPacking" "blockBits" "I" (.int 0)) (g_ar : n0 ≤ ar) (h2 : ¬ md < (2 : Int32)) (hnz : (md).toInt64 ≠ 0) (hp0 : ¬ ((144115188075855872 : Int64) / (md).toInt64) < (1 : Int64)) (hp1 : ¬ ((144115188075855872 : Int64) / (md).toInt64) < ((1 : Int64) * (md).toInt64)) (hp2 : ¬ ((144115188075855872 : Int64) / (md).toInt64) < (((1 : Int64) * (md).toInt64) * (md).toInt64)) (hp3 : ¬ ((144115188075855872 : Int64) / (md).toInt64) < ((((1 : Int64) * (md).toInt64) * (md).toInt64) * (md).toInt64)) (hp4 : ¬ ((144115188075855872 : Int64) / (md).toInt64) < (((((1 : Int64) * (md).toInt64) * (md).toInt64) * (md).toInt64) * (md).toInt64)) :
    Met l Z Y6 prog_4_method_1_code 6 none ws ({ frames := 2, cells := 1, slots := 5, locals := 30 } : Room) #[(.ref ar), (.int md), (.int 5)] h0 (Q_ini5 Z ar md h0 n0) := by
  refine own_body (plainFor_of_name pn2) ?_
  intro p e s m below meth c s₁ hx hby hret hlk hml hZ hown hnm X0 e0
  have N0 := Fr.nil n0
  refine Wp.back (U' := (s₁.setTop (mkF m 0 #[.val (.ref ar), .val (.int md), .val (.int 5), .unset, .unset, .unset] []))) (fun t k => castTop (ef2_RII m ar md (5 : Int32)) k) ?_
  refine Wp.back (U' := (s₁.setTop (mkF m 1 #[.val (.ref ar), .val (.int md), .val (.int 5), .unset, .unset, .unset] [(.ref ar)]))) (fun t k => XS.aloadN X0.here hx rfl (hb hby d2_0) rfl rfl k) ?_
  obtain ⟨T1, X1, e1, st1⟩ := initO X0 hx hZ hown (ow hw 10 rfl) (ow hw 11 rfl) (ow hw 12 rfl) e0 (g := (mkF m 1 #[.val (.ref ar), .val (.int md), .val (.int 5), .unset, .unset, .unset] [(.ref ar)])) rfl (by rw [hml]; rfl) rfl (hb hby d2_1) (by decide) (W := 0) (Nat.le_of_eq rfl) (by decide)
  refine Wp.back (U' := (T1.setTop (mkF m 4 #[.val (.ref ar), .val (.int md), .val (.int 5), .unset, .unset, .unset] []))) st1 ?_
  refine Wp.back (U' := (T1.setTop (mkF m 43 #[.val (.ref ar), .val (.int md), .val (.int 5), .unset, .unset, .unset] [(.int 5), (.ref ar)]))) (fun t k => XS.iloadN X1.here hx rfl (hb hby d2_4) rfl (XT.iconstV X1.here hx rfl 2 (hb hby d2_5) (by decide) (XS.icmpNo X1.here hx rfl (hb hby d2_6) rfl (flt h2).1 (XS.iloadN X1.here hx rfl (hb hby d2_9) rfl (XT.iconstV X1.here hx rfl 1 (hb hby d2_10) (by decide) (XS.icmpYes X1.here hx rfl (pc0 := 11) (pc' := 29) rfl (hb hby d2_11) rfl (flt (by decide)).2.1 (by decide) (by decide) (XS.iloadN X1.here hx rfl (hb hby d2_29) rfl (XT.bipushV X1.here hx rfl 57 (hb hby d2_30) (by decide) (XS.icmpYes X1.here hx rfl (pc0 := 32) (pc' := 41) rfl (hb hby d2_32) rfl (flt (by decide)).2.2.2 (by decide) (by decide) (XS.aloadN X1.here hx rfl (hb hby d2_41) rfl rfl (XS.iloadN X1.here hx rfl (hb hby d2_42) rfl k))))))))))) ?_
  obtain ⟨T2, h2, k2, X2, e2, E2, A2, st2⟩ := newP X1 hx hZ (ow hw 13 rfl) e1 (g := (mkF m 43 #[.val (.ref ar), .val (.int md), .val (.int 5), .unset, .unset, .unset] [(.int 5), (.ref ar)])) rfl (hb hby d2_43) rfl (by decide) (cap := 5) (by decide) (by decide) (by decide) (by decide)
  obtain ⟨b2, g2⟩ : ∃ z, z = h0.size := ⟨_, rfl⟩
  rw [← g2] at A2 st2
  have ne_ar_b2 : ar ≠ b2 := Nat.ne_of_lt (Nat.lt_of_lt_of_le H0.lt (Nat.le_of_eq g2.symm))
  have g_b2 : n0 ≤ b2 := Nat.le_trans Z0 (Nat.le_of_eq g2.symm)
  have sz_b2 : h0.size ≤ b2 := Nat.le_trans (Keep.refl h0 [ar]).1 (Nat.le_of_eq g2.symm)
  have f3_0 := Nat.le_trans Z0 E2.1
  have f3_1 := H0.ext E2
  have f3_2 := H1.ext E2
  have f3_3 := H2.ext E2
  have f3_4 := H3.ext E2
  have f3_5 := H4.ext E2
  have f3_6 := (Keep.refl h0 [ar]).ext E2
  have V2 : Arv Z h2 b2 k2 .long (5 : Int32) [(.long (0 : Int64)), (.long (0 : Int64)), (.long (0 : Int64)), (.long (0 : Int64)), (.long (0 : Int64))] (.long (0 : Int64)) := (Arv.new A2 (by decide)).pad (pad_rep [] (.long (0 : Int64)) 5)
  refine Wp.back (U' := (T2.setTop (mkF m 45 #[.val (.ref ar), .val (.int md), .val (.int 5), .unset, .unset, .unset] [(.ref b2), (.ref ar)]))) st2 ?_
  obtain ⟨T4, h4, X4, e4, W4, st4⟩ := putF X2 hx hZ hown (host := "") (Or.inl (ow hw 14 rfl)) Via.refl e2 f3_2 f3_1 (Or.inr ⟨(ow hw 15 rfl), rfl, hnm⟩) (ow hw 5 rfl) (ty := (.array .long)) (by decide) rfl rfl (g := (mkF m 45 #[.val (.ref ar), .val (.int md), .val (.int 5), .unset, .unset, .unset] [(.ref b2), (.ref ar)])) rfl rfl (hb hby d2_45)
  have Fw4 := f3_2.same W4
  have f5_0 := Nat.le_trans f3_0 (Keep.of_wr W4).1
  have f5_1 := f3_1.wr W4
  have f5_2 := f3_3.other W4 (Or.inr (slot_ne (Or.inr (ow hw 18 rfl)) (Or.inr (ow hw 15 rfl)) (by decide) (t := .int) (t' := (.array .long)) (by decide) (by decide)))
  have f5_3 := f3_4.other W4 (Or.inr (slot_ne (Or.inr (ow hw 20 rfl)) (Or.inr (ow hw 15 rfl)) (by decide) (t := .int) (t' := (.array .long)) (by decide) (by decide)))
  have f5_4 := f3_5.other W4 (Or.inr (slot_ne (Or.inr (ow hw 31 rfl)) (Or.inr (ow hw 15 rfl)) (by decide) (t := .int) (t' := (.array .long)) (by decide) (by decide)))
  have f5_5 := f3_6.wr W4 (Or.inl (List.mem_of_getElem? (i := 0) rfl))
  have f5_6 := V2.other W4 (Ne.symm ne_ar_b2)
  have N4 := Fr.snoc X4 N0 g_ar
  refine Wp.back (U' := (T4.setTop (mkF m 48 #[.val (.ref ar), .val (.int md), .val (.int 5), .unset, .unset, .unset] []))) st4 ?_
  refine Wp.back (U' := (T4.setTop (mkF m 66 #[.val (.ref ar), .val (.int md), .val (.int 5), .val (.long (1 : Int64)), .second, .val (.int 0)] [(.long ((144115188075855872 : Int64) / (md).toInt64)), (.long (1 : Int64))]))) (fun t k => XT.lconstV X4.here hx rfl (1 : Int64) (hb hby d2_48) (by decide) (XS.lstoreN X4.here hx rfl (hb hby d2_49) rfl (l' := #[.val (.ref ar), .val (.int md), .val (.int 5), .val (.long (1 : Int64)), .second, .unset]) rfl (XT.iconstV X4.here hx rfl 0 (hb hby d2_50) (by decide) (XS.istore X4.here hx rfl (hb hby d2_51) rfl (l' := #[.val (.ref ar), .val (.int md), .val (.int 5), .val (.long (1 : Int64)), .second, .val (.int 0)]) rfl (XS.iload X4.here hx rfl (hb hby d2_53) rfl (XS.iloadN X4.here hx rfl (hb hby d2_55) rfl (XS.icmpNo X4.here hx rfl (hb hby d2_56) rfl (tlt (by decide)).2.1 (XS.lloadN X4.here hx rfl (hb hby d2_59) rfl (Jvm.Stand.ldc2J X4 hx hown (mvT hZ (ow hw 16 rfl)) rfl (hb hby d2_60) (XS.iloadN X4.here hx rfl (hb hby d2_63) rfl (XS.i2l X4.here hx rfl (hb hby d2_64) rfl (XS.ldiv X4.here hx rfl (hb hby d2_65) rfl hnz k)))))))))))) ?_
  refine Wp.back (U' := (T4.setTop (mkF m 77 #[.val (.ref ar), .val (.int md), .val (.int 5), .val (.long (1 : Int64)), .second, .val (.int 0)] [(.ref ar)]))) (fun t k => XS.lcmp X4.here hx rfl (hb hby d2_66) rfl (XS.ifYes X4.here hx rfl (pc0 := 67) (pc' := 76) rfl (hb hby d2_67) rfl ((if0 _ _).trans (flt (fun q => hp0 ((lw_gt (1 : Int64) ((144115188075855872 : Int64) / (md).toInt64)).mp q))).2.2.2) (by decide) (by decide) (XS.aloadN X4.here hx rfl (hb hby d2_76) rfl rfl k))) ?_
  obtain ⟨T6, X6, e6, st6⟩ := getF X4 hx hZ hown (host := "") (Or.inl (ow hw 14 rfl)) Via.refl e4 Fw4 (g := (mkF m 77 #[.val (.ref ar), .val (.int md), .val (.int 5), .val (.long (1 : Int64)), .second, .val (.int 0)] [(.ref ar)])) rfl rfl (hb hby d2_77)
  refine Wp.back (U' := (T6.setTop (mkF m 80 #[.val (.ref ar), .val (.int md), .val (.int 5), .val (.long (1 : Int64)), .second, .val (.int 0)] [(.ref b2)]))) st6 ?_
  refine Wp.back (U' := (T6.setTop (mkF m 83 #[.val (.ref ar), .val (.int md), .val (.int 5), .val (.long (1 : Int64)), .second, .val (.int 0)] [(.long (1 : Int64)), (.int 0), (.ref b2)]))) (fun t k => XS.iload X6.here hx rfl (hb hby d2_80) rfl (XS.lloadN X6.here hx rfl (hb hby d2_82) rfl k)) ?_
  have vq7 := f5_6
  obtain ⟨cl7, Ar7, qa7, qs7, qn7, qh7, qg7⟩ := vq7
  have hin7 : ¬ ((0 : Int32) < 0 ∨ cl7.slots.size ≤ ((0 : Int32)).toNatClampNeg) := inb_of qs7 ⟨by decide, by decide⟩
  obtain ⟨T7, h7, X7, e7, W7, st7⟩ := stJ X6 hx hZ e6 Ar7 (j := (0 : Int32)) hin7 (g := (mkF m 83 #[.val (.ref ar), .val (.int md), .val (.int 5), .val (.long (1 : Int64)), .second, .val (.int 0)] [(.long (1 : Int64)), (.int 0), (.ref b2)])) rfl rfl (hb hby d2_83)
  have V7 : Arv Z h7 b2 k2 .long (5 : Int32) [(.long (1 : Int64)), (.long (0 : Int64)), (.long (0 : Int64)), (.long (0 : Int64)), (.long (0 : Int64))] (.long (0 : Int64)) := Arv.set Ar7 qa7 qs7 qn7 qh7 qg7 rfl W7 0 rfl (Nat.le_of_ble_eq_true rfl)
  have f8_0 := Nat.le_trans f5_0 (Keep.of_wr W7).1
  have f8_1 := f5_1.wr W7
  have f8_2 := f5_2.other W7 (Or.inl ne_ar_b2)
  have f8_3 := f5_3.other W7 (Or.inl ne_ar_b2)
  have f8_4 := f5_4.other W7 (Or.inl ne_ar_b2)
  have f8_5 := f5_5.wr W7 (Or.inr sz_b2)
  have f8_6 := Fw4.other W7 (Or.inl ne_ar_b2)
  have N7 := Fr.snoc X7 N4 g_b2
  refine Wp.back (U' := (T7.setTop (mkF m 84 #[.val (.ref ar), .val (.int md), .val (.int 5), .val (.long (1 : Int64)), .second, .val (.int 0)] []))) st7 ?_
  refine Wp.back (U' := (T7.setTop (mkF m 63 #[.val (.ref ar), .val (.int md), .val (.int 5), .val (.long ((1 : Int64) * (md).toInt64)), .second, .val (.int 1)] [(.long (144115188075855872 : Int64)), (.long ((1 : Int64) * (md).toInt64))]))) (fun t k => XS.lloadN X7.here hx rfl (hb hby d2_84) rfl (XS.iloadN X7.here hx rfl (hb hby d2_85) rfl (XS.i2l X7.here hx rfl (hb hby d2_86) rfl (XS.lmul X7.here hx rfl (hb hby d2_87) rfl (XS.lstoreN X7.here hx rfl (hb hby d2_88) rfl (l' := #[.val (.ref ar), .val (.int md), .val (.int 5), .val (.long ((1 : Int64) * (md).toInt64)), .second, .val (.int 0)]) rfl (XT.iincV X7.here hx rfl 1 (hb hby d2_89) (by decide) rfl (l' := #[.val (.ref ar), .val (.int md), .val (.int 5), .val (.long ((1 : Int64) * (md).toInt64)), .second, .val (.int 1)]) rfl (XS.goto X7.here hx rfl (pc0 := 92) (pc' := 53) rfl (hb hby d2_92) (by decide) (by decide) (XS.iload X7.here hx rfl (hb hby d2_53) rfl (XS.iloadN X7.here hx rfl (hb hby d2_55) rfl (XS.icmpNo X7.here hx rfl (hb hby d2_56) rfl (tlt (by decide)).2.1 (XS.lloadN X7.here hx rfl (hb hby d2_59) rfl (Jvm.Stand.ldc2J X7 hx hown (mvT hZ (ow hw 16 rfl)) rfl (hb hby d2_60) k)))))))))))) ?_
  refine Wp.back (U' := (T7.setTop (mkF m 77 #[.val (.ref ar), .val (.int md), .val (.int 5), .val (.long ((1 : Int64) * (md).toInt64)), .second, .val (.int 1)] [(.ref ar)]))) (fun t k => XS.iloadN X7.here hx rfl (hb hby d2_63) rfl (XS.i2l X7.here hx rfl (hb hby d2_64) rfl (XS.ldiv X7.here hx rfl (hb hby d2_65) rfl hnz (XS.lcmp X7.here hx rfl (hb hby d2_66) rfl (XS.ifYes X7.here hx rfl (pc0 := 67) (pc' := 76) rfl (hb hby d2_67) rfl ((if0 _ _).trans (flt (fun q => hp1 ((lw_gt ((1 : Int64) * (md).toInt64) ((144115188075855872 : Int64) / (md).toInt64)).mp q))).2.2.2) (by decide) (by decide) (XS.aloadN X7.here hx rfl (hb hby d2_76) rfl rfl k)))))) ?_
  obtain ⟨T9, X9, e9, st9⟩ := getF X7 hx hZ hown (host := "") (Or.inl (ow hw 14 rfl)) Via.refl e7 f8_6 (g := (mkF m 77 #[.val (.ref ar), .val (.int md), .val (.int 5), .val (.long ((1 : Int64) * (md).toInt64)), .second, .val (.int 1)] [(.ref ar)])) rfl rfl (hb hby d2_77)
  refine Wp.back (U' := (T9.setTop (mkF m 80 #[.val (.ref ar), .val (.int md), .val (.int 5), .val (.long ((1 : Int64) * (md).toInt64)), .second, .val (.int 1)] [(.ref b2)]))) st9 ?_
  refine Wp.back (U' := (T9.setTop (mkF m 83 #[.val (.ref ar), .val (.int md), .val (.int 5), .val (.long ((1 : Int64) * (md).toInt64)), .second, .val (.int 1)] [(.long ((1 : Int64) * (md).toInt64)), (.int 1), (.ref b2)]))) (fun t k => XS.iload X9.here hx rfl (hb hby d2_80) rfl (XS.lloadN X9.here hx rfl (hb hby d2_82) rfl k)) ?_
  have vq10 := V7
  obtain ⟨cl10, Ar10, qa10, qs10, qn10, qh10, qg10⟩ := vq10
  have hin10 : ¬ ((1 : Int32) < 0 ∨ cl10.slots.size ≤ ((1 : Int32)).toNatClampNeg) := inb_of qs10 ⟨by decide, by decide⟩
  obtain ⟨T10, h10, X10, e10, W10, st10⟩ := stJ X9 hx hZ e9 Ar10 (j := (1 : Int32)) hin10 (g := (mkF m 83 #[.val (.ref ar), .val (.int md), .val (.int 5), .val (.long ((1 : Int64) * (md).toInt64)), .second, .val (.int 1)] [(.long ((1 : Int64) * (md).toInt64)), (.int 1), (.ref b2)])) rfl rfl (hb hby d2_83)
  have V10 : Arv Z h10 b2 k2 .long (5 : Int32) [(.long (1 : Int64)), (.long ((1 : Int64) * (md).toInt64)), (.long (0 : Int64)), (.long (0 : Int64)), (.long (0 : Int64))] (.long (0 : Int64)) := Arv.set Ar10 qa10 qs10 qn10 qh10 qg10 rfl W10 1 rfl (Nat.le_of_ble_eq_true rfl)
  have f11_0 := Nat.le_trans f8_0 (Keep.of_wr W10).1
  have f11_1 := f8_1.wr W10
  have f11_2 := f8_2.other W10 (Or.inl ne_ar_b2)
  have f11_3 := f8_3.other W10 (Or.inl ne_ar_b2)
  have f11_4 := f8_4.other W10 (Or.inl ne_ar_b2)
  have f11_5 := f8_5.wr W10 (Or.inr sz_b2)
  have f11_6 := f8_6.other W10 (Or.inl ne_ar_b2)
  have N10 := Fr.snoc X10 N7 g_b2
  refine Wp.back (U' := (T10.setTop (mkF m 84 #[.val (.ref ar), .val (.int md), .val (.int 5), .val (.long ((1 : Int64) * (md).toInt64)), .second, .val (.int 1)] []))) st10 ?_
  refine Wp.back (U' := (T10.setTop (mkF m 63 #[.val (.ref ar), .val (.int md), .val (.int 5), .val (.long (((1 : Int64) * (md).toInt64) * (md).toInt64)), .second, .val (.int 2)] [(.long (144115188075855872 : Int64)), (.long (((1 : Int64) * (md).toInt64) * (md).toInt64))]))) (fun t k => XS.lloadN X10.here hx rfl (hb hby d2_84) rfl (XS.iloadN X10.here hx rfl (hb hby d2_85) rfl (XS.i2l X10.here hx rfl (hb hby d2_86) rfl (XS.lmul X10.here hx rfl (hb hby d2_87) rfl (XS.lstoreN X10.here hx rfl (hb hby d2_88) rfl (l' := #[.val (.ref ar), .val (.int md), .val (.int 5), .val (.long (((1 : Int64) * (md).toInt64) * (md).toInt64)), .second, .val (.int 1)]) rfl (XT.iincV X10.here hx rfl 1 (hb hby d2_89) (by decide) rfl (l' := #[.val (.ref ar), .val (.int md), .val (.int 5), .val (.long (((1 : Int64) * (md).toInt64) * (md).toInt64)), .second, .val (.int 2)]) rfl (XS.goto X10.here hx rfl (pc0 := 92) (pc' := 53) rfl (hb hby d2_92) (by decide) (by decide) (XS.iload X10.here hx rfl (hb hby d2_53) rfl (XS.iloadN X10.here hx rfl (hb hby d2_55) rfl (XS.icmpNo X10.here hx rfl (hb hby d2_56) rfl (tlt (by decide)).2.1 (XS.lloadN X10.here hx rfl (hb hby d2_59) rfl (Jvm.Stand.ldc2J X10 hx hown (mvT hZ (ow hw 16 rfl)) rfl (hb hby d2_60) k)))))))))))) ?_
  refine Wp.back (U' := (T10.setTop (mkF m 77 #[.val (.ref ar), .val (.int md), .val (.int 5), .val (.long (((1 : Int64) * (md).toInt64) * (md).toInt64)), .second, .val (.int 2)] [(.ref ar)]))) (fun t k => XS.iloadN X10.here hx rfl (hb hby d2_63) rfl (XS.i2l X10.here hx rfl (hb hby d2_64) rfl (XS.ldiv X10.here hx rfl (hb hby d2_65) rfl hnz (XS.lcmp X10.here hx rfl (hb hby d2_66) rfl (XS.ifYes X10.here hx rfl (pc0 := 67) (pc' := 76) rfl (hb hby d2_67) rfl ((if0 _ _).trans (flt (fun q => hp2 ((lw_gt (((1 : Int64) * (md).toInt64) * (md).toInt64) ((144115188075855872 : Int64) / (md).toInt64)).mp q))).2.2.2) (by decide) (by decide) (XS.aloadN X10.here hx rfl (hb hby d2_76) rfl rfl k)))))) ?_
  obtain ⟨T12, X12, e12, st12⟩ := getF X10 hx hZ hown (host := "") (Or.inl (ow hw 14 rfl)) Via.refl e10 f11_6 (g := (mkF m 77 #[.val (.ref ar), .val (.int md), .val (.int 5), .val (.long (((1 : Int64) * (md).toInt64) * (md).toInt64)), .second, .val (.int 2)] [(.ref ar)])) rfl rfl (hb hby d2_77)
  refine Wp.back (U' := (T12.setTop (mkF m 80 #[.val (.ref ar), .val (.int md), .val (.int 5), .val (.long (((1 : Int64) * (md).toInt64) * (md).toInt64)), .second, .val (.int 2)] [(.ref b2)]))) st12 ?_
  refine Wp.back (U' := (T12.setTop (mkF m 83 #[.val (.ref ar), .val (.int md), .val (.int 5), .val (.long (((1 : Int64) * (md).toInt64) * (md).toInt64)), .second, .val (.int 2)] [(.long (((1 : Int64) * (md).toInt64) * (md).toInt64)), (.int 2), (.ref b2)]))) (fun t k => XS.iload X12.here hx rfl (hb hby d2_80) rfl (XS.lloadN X12.here hx rfl (hb hby d2_82) rfl k)) ?_
  have vq13 := V10
  obtain ⟨cl13, Ar13, qa13, qs13, qn13, qh13, qg13⟩ := vq13
  have hin13 : ¬ ((2 : Int32) < 0 ∨ cl13.slots.size ≤ ((2 : Int32)).toNatClampNeg) := inb_of qs13 ⟨by decide, by decide⟩
  obtain ⟨T13, h13, X13, e13, W13, st13⟩ := stJ X12 hx hZ e12 Ar13 (j := (2 : Int32)) hin13 (g := (mkF m 83 #[.val (.ref ar), .val (.int md), .val (.int 5), .val (.long (((1 : Int64) * (md).toInt64) * (md).toInt64)), .second, .val (.int 2)] [(.long (((1 : Int64) * (md).toInt64) * (md).toInt64)), (.int 2), (.ref b2)])) rfl rfl (hb hby d2_83)
  have V13 : Arv Z h13 b2 k2 .long (5 : Int32) [(.long (1 : Int64)), (.long ((1 : Int64) * (md).toInt64)), (.long (((1 : Int64) * (md).toInt64) * (md).toInt64)), (.long (0 : Int64)), (.long (0 : Int64))] (.long (0 : Int64)) := Arv.set Ar13 qa13 qs13 qn13 qh13 qg13 rfl W13 2 rfl (Nat.le_of_ble_eq_true rfl)
  have f14_0 := Nat.le_trans f11_0 (Keep.of_wr W13).1
  have f14_1 := f11_1.wr W13
  have f14_2 := f11_2.other W13 (Or.inl ne_ar_b2)
  have f14_3 := f11_3.other W13 (Or.inl ne_ar_b2)
  have f14_4 := f11_4.other W13 (Or.inl ne_ar_b2)
  have f14_5 := f11_5.wr W13 (Or.inr sz_b2)
  have f14_6 := f11_6.other W13 (Or.inl ne_ar_b2)
  have N13 := Fr.snoc X13 N10 g_b2
  refine Wp.back (U' := (T13.setTop (mkF m 84 #[.val (.ref ar), .val (.int md), .val (.int 5), .val (.long (((1 : Int64) * (md).toInt64) * (md).toInt64)), .second, .val (.int 2)] []))) st13 ?_
  refine Wp.back (U' := (T13.setTop (mkF m 63 #[.val (.ref ar), .val (.int md), .val (.int 5), .val (.long ((((1 : Int64) * (md).toInt64) * (md).toInt64) * (md).toInt64)), .second, .val (.int 3)] [(.long (144115188075855872 : Int64)), (.long ((((1 : Int64) * (md).toInt64) * (md).toInt64) * (md).toInt64))]))) (fun t k => XS.lloadN X13.here hx rfl (hb hby d2_84) rfl (XS.iloadN X13.here hx rfl (hb hby d2_85) rfl (XS.i2l X13.here hx rfl (hb hby d2_86) rfl (XS.lmul X13.here hx rfl (hb hby d2_87) rfl (XS.lstoreN X13.here hx rfl (hb hby d2_88) rfl (l' := #[.val (.ref ar), .val (.int md), .val (.int 5), .val (.long ((((1 : Int64) * (md).toInt64) * (md).toInt64) * (md).toInt64)), .second, .val (.int 2)]) rfl (XT.iincV X13.here hx rfl 1 (hb hby d2_89) (by decide) rfl (l' := #[.val (.ref ar), .val (.int md), .val (.int 5), .val (.long ((((1 : Int64) * (md).toInt64) * (md).toInt64) * (md).toInt64)), .second, .val (.int 3)]) rfl (XS.goto X13.here hx rfl (pc0 := 92) (pc' := 53) rfl (hb hby d2_92) (by decide) (by decide) (XS.iload X13.here hx rfl (hb hby d2_53) rfl (XS.iloadN X13.here hx rfl (hb hby d2_55) rfl (XS.icmpNo X13.here hx rfl (hb hby d2_56) rfl (tlt (by decide)).2.1 (XS.lloadN X13.here hx rfl (hb hby d2_59) rfl (Jvm.Stand.ldc2J X13 hx hown (mvT hZ (ow hw 16 rfl)) rfl (hb hby d2_60) k)))))))))))) ?_
  refine Wp.back (U' := (T13.setTop (mkF m 77 #[.val (.ref ar), .val (.int md), .val (.int 5), .val (.long ((((1 : Int64) * (md).toInt64) * (md).toInt64) * (md).toInt64)), .second, .val (.int 3)] [(.ref ar)]))) (fun t k => XS.iloadN X13.here hx rfl (hb hby d2_63) rfl (XS.i2l X13.here hx rfl (hb hby d2_64) rfl (XS.ldiv X13.here hx rfl (hb hby d2_65) rfl hnz (XS.lcmp X13.here hx rfl (hb hby d2_66) rfl (XS.ifYes X13.here hx rfl (pc0 := 67) (pc' := 76) rfl (hb hby d2_67) rfl ((if0 _ _).trans (flt (fun q => hp3 ((lw_gt ((((1 : Int64) * (md).toInt64) * (md).toInt64) * (md).toInt64) ((144115188075855872 : Int64) / (md).toInt64)).mp q))).2.2.2) (by decide) (by decide) (XS.aloadN X13.here hx rfl (hb hby d2_76) rfl rfl k)))))) ?_
  obtain ⟨T15, X15, e15, st15⟩ := getF X13 hx hZ hown (host := "") (Or.inl (ow hw 14 rfl)) Via.refl e13 f14_6 (g := (mkF m 77 #[.val (.ref ar), .val (.int md), .val (.int 5), .val (.long ((((1 : Int64) * (md).toInt64) * (md).toInt64) * (md).toInt64)), .second, .val (.int 3)] [(.ref ar)])) rfl rfl (hb hby d2_77)
  refine Wp.back (U' := (T15.setTop (mkF m 80 #[.val (.ref ar), .val (.int md), .val (.int 5), .val (.long ((((1 : Int64) * (md).toInt64) * (md).toInt64) * (md).toInt64)), .second, .val (.int 3)] [(.ref b2)]))) st15 ?_
  refine Wp.back (U' := (T15.setTop (mkF m 83 #[.val (.ref ar), .val (.int md), .val (.int 5), .val (.long ((((1 : Int64) * (md).toInt64) * (md).toInt64) * (md).toInt64)), .second, .val (.int 3)] [(.long ((((1 : Int64) * (md).toInt64) * (md).toInt64) * (md).toInt64)), (.int 3), (.ref b2)]))) (fun t k => XS.iload X15.here hx rfl (hb hby d2_80) rfl (XS.lloadN X15.here hx rfl (hb hby d2_82) rfl k)) ?_
  have vq16 := V13
  obtain ⟨cl16, Ar16, qa16, qs16, qn16, qh16, qg16⟩ := vq16
  have hin16 : ¬ ((3 : Int32) < 0 ∨ cl16.slots.size ≤ ((3 : Int32)).toNatClampNeg) := inb_of qs16 ⟨by decide, by decide⟩
  obtain ⟨T16, h16, X16, e16, W16, st16⟩ := stJ X15 hx hZ e15 Ar16 (j := (3 : Int32)) hin16 (g := (mkF m 83 #[.val (.ref ar), .val (.int md), .val (.int 5), .val (.long ((((1 : Int64) * (md).toInt64) * (md).toInt64) * (md).toInt64)), .second, .val (.int 3)] [(.long ((((1 : Int64) * (md).toInt64) * (md).toInt64) * (md).toInt64)), (.int 3), (.ref b2)])) rfl rfl (hb hby d2_83)
  have V16 : Arv Z h16 b2 k2 .long (5 : Int32) [(.long (1 : Int64)), (.long ((1 : Int64) * (md).toInt64)), (.long (((1 : Int64) * (md).toInt64) * (md).toInt64)), (.long ((((1 : Int64) * (md).toInt64) * (md).toInt64) * (md).toInt64)), (.long (0 : Int64))] (.long (0 : Int64)) := Arv.set Ar16 qa16 qs16 qn16 qh16 qg16 rfl W16 3 rfl (Nat.le_of_ble_eq_true rfl)
  have f17_0 := Nat.le_trans f14_0 (Keep.of_wr W16).1
  have f17_1 := f14_1.wr W16
  have f17_2 := f14_2.other W16 (Or.inl ne_ar_b2)
  have f17_3 := f14_3.other W16 (Or.inl ne_ar_b2)
  have f17_4 := f14_4.other W16 (Or.inl ne_ar_b2)
  have f17_5 := f14_5.wr W16 (Or.inr sz_b2)
  have f17_6 := f14_6.other W16 (Or.inl ne_ar_b2)
  have N16 := Fr.snoc X16 N13 g_b2
  refine Wp.back (U' := (T16.setTop (mkF m 84 #[.val (.ref ar), .val (.int md), .val (.int 5), .val (.long ((((1 : Int64) * (md).toInt64) * (md).toInt64) * (md).toInt64)), .second, .val (.int 3)] []))) st16 ?_
  refine Wp.back (U' := (T16.setTop (mkF m 63 #[.val (.ref ar), .val (.int md), .val (.int 5), .val (.long (((((1 : Int64) * (md).toInt64) * (md).toInt64) * (md).toInt64) * (md).toInt64)), .second, .val (.int 4)] [(.long (144115188075855872 : Int64)), (.long (((((1 : Int64) * (md).toInt64) * (md).toInt64) * (md).toInt64) * (md).toInt64))]))) (fun t k => XS.lloadN X16.here hx rfl (hb hby d2_84) rfl (XS.iloadN X16.here hx rfl (hb hby d2_85) rfl (XS.i2l X16.here hx rfl (hb hby d2_86) rfl (XS.lmul X16.here hx rfl (hb hby d2_87) rfl (XS.lstoreN X16.here hx rfl (hb hby d2_88) rfl (l' := #[.val (.ref ar), .val (.int md), .val (.int 5), .val (.long (((((1 : Int64) * (md).toInt64) * (md).toInt64) * (md).toInt64) * (md).toInt64)), .second, .val (.int 3)]) rfl (XT.iincV X16.here hx rfl 1 (hb hby d2_89) (by decide) rfl (l' := #[.val (.ref ar), .val (.int md), .val (.int 5), .val (.long (((((1 : Int64) * (md).toInt64) * (md).toInt64) * (md).toInt64) * (md).toInt64)), .second, .val (.int 4)]) rfl (XS.goto X16.here hx rfl (pc0 := 92) (pc' := 53) rfl (hb hby d2_92) (by decide) (by decide) (XS.iload X16.here hx rfl (hb hby d2_53) rfl (XS.iloadN X16.here hx rfl (hb hby d2_55) rfl (XS.icmpNo X16.here hx rfl (hb hby d2_56) rfl (tlt (by decide)).2.1 (XS.lloadN X16.here hx rfl (hb hby d2_59) rfl (Jvm.Stand.ldc2J X16 hx hown (mvT hZ (ow hw 16 rfl)) rfl (hb hby d2_60) k)))))))))))) ?_
  refine Wp.back (U' := (T16.setTop (mkF m 77 #[.val (.ref ar), .val (.int md), .val (.int 5), .val (.long (((((1 : Int64) * (md).toInt64) * (md).toInt64) * (md).toInt64) * (md).toInt64)), .second, .val (.int 4)] [(.ref ar)]))) (fun t k => XS.iloadN X16.here hx rfl (hb hby d2_63) rfl (XS.i2l X16.here hx rfl (hb hby d2_64) rfl (XS.ldiv X16.here hx rfl (hb hby d2_65) rfl hnz (XS.lcmp X16.here hx rfl (hb hby d2_66) rfl (XS.ifYes X16.here hx rfl (pc0 := 67) (pc' := 76) rfl (hb hby d2_67) rfl ((if0 _ _).trans (flt (fun q => hp4 ((lw_gt (((((1 : Int64) * (md).toInt64) * (md).toInt64) * (md).toInt64) * (md).toInt64) ((144115188075855872 : Int64) / (md).toInt64)).mp q))).2.2.2) (by decide) (by decide) (XS.aloadN X16.here hx rfl (hb hby d2_76) rfl rfl k)))))) ?_
  obtain ⟨T18, X18, e18, st18⟩ := getF X16 hx hZ hown (host := "") (Or.inl (ow hw 14 rfl)) Via.refl e16 f17_6 (g := (mkF m 77 #[.val (.ref ar), .val (.int md), .val (.int 5), .val (.long (((((1 : Int64) * (md).toInt64) * (md).toInt64) * (md).toInt64) * (md).toInt64)), .second, .val (.int 4)] [(.ref ar)])) rfl rfl (hb hby d2_77)
  refine Wp.back (U' := (T18.setTop (mkF m 80 #[.val (.ref ar), .val (.int md), .val (.int 5), .val (.long (((((1 : Int64) * (md).toInt64) * (md).toInt64) * (md).toInt64) * (md).toInt64)), .second, .val (.int 4)] [(.ref b2)]))) st18 ?_
  refine Wp.back (U' := (T18.setTop (mkF m 83 #[.val (.ref ar), .val (.int md), .val (.int 5), .val (.long (((((1 : Int64) * (md).toInt64) * (md).toInt64) * (md).toInt64) * (md).toInt64)), .second, .val (.int 4)] [(.long (((((1 : Int64) * (md).toInt64) * (md).toInt64) * (md).toInt64) * (md).toInt64)), (.int 4), (.ref b2)]))) (fun t k => XS.iload X18.here hx rfl (hb hby d2_80) rfl (XS.lloadN X18.here hx rfl (hb hby d2_82) rfl k)) ?_
  have vq19 := V16
  obtain ⟨cl19, Ar19, qa19, qs19, qn19, qh19, qg19⟩ := vq19
  have hin19 : ¬ ((4 : Int32) < 0 ∨ cl19.slots.size ≤ ((4 : Int32)).toNatClampNeg) := inb_of qs19 ⟨by decide, by decide⟩
  obtain ⟨T19, h19, X19, e19, W19, st19⟩ := stJ X18 hx hZ e18 Ar19 (j := (4 : Int32)) hin19 (g := (mkF m 83 #[.val (.ref ar), .val (.int md), .val (.int 5), .val (.long (((((1 : Int64) * (md).toInt64) * (md).toInt64) * (md).toInt64) * (md).toInt64)), .second, .val (.int 4)] [(.long (((((1 : Int64) * (md).toInt64) * (md).toInt64) * (md).toInt64) * (md).toInt64)), (.int 4), (.ref b2)])) rfl rfl (hb hby d2_83)
  have V19 : Arv Z h19 b2 k2 .long (5 : Int32) [(.long (1 : Int64)), (.long ((1 : Int64) * (md).toInt64)), (.long (((1 : Int64) * (md).toInt64) * (md).toInt64)), (.long ((((1 : Int64) * (md).toInt64) * (md).toInt64) * (md).toInt64)), (.long (((((1 : Int64) * (md).toInt64) * (md).toInt64) * (md).toInt64) * (md).toInt64))] (.long (0 : Int64)) := Arv.set Ar19 qa19 qs19 qn19 qh19 qg19 rfl W19 4 rfl (Nat.le_of_ble_eq_true rfl)
  have f20_0 := Nat.le_trans f17_0 (Keep.of_wr W19).1
  have f20_1 := f17_1.wr W19
  have f20_2 := f17_2.other W19 (Or.inl ne_ar_b2)
  have f20_3 := f17_3.other W19 (Or.inl ne_ar_b2)
  have f20_4 := f17_4.other W19 (Or.inl ne_ar_b2)
  have f20_5 := f17_5.wr W19 (Or.inr sz_b2)
  have f20_6 := f17_6.other W19 (Or.inl ne_ar_b2)
  have N19 := Fr.snoc X19 N16 g_b2
  refine Wp.back (U' := (T19.setTop (mkF m 84 #[.val (.ref ar), .val (.int md), .val (.int 5), .val (.long (((((1 : Int64) * (md).toInt64) * (md).toInt64) * (md).toInt64) * (md).toInt64)), .second, .val (.int 4)] []))) st19 ?_
  refine Wp.back (U' := (T19.setTop (mkF m 97 #[.val (.ref ar), .val (.int md), .val (.int 5), .val (.long ((((((1 : Int64) * (md).toInt64) * (md).toInt64) * (md).toInt64) * (md).toInt64) * (md).toInt64)), .second, .val (.int 5)] [(.int md), (.ref ar)]))) (fun t k => XS.lloadN X19.here hx rfl (hb hby d2_84) rfl (XS.iloadN X19.here hx rfl (hb hby d2_85) rfl (XS.i2l X19.here hx rfl (hb hby d2_86) rfl (XS.lmul X19.here hx rfl (hb hby d2_87) rfl (XS.lstoreN X19.here hx rfl (hb hby d2_88) rfl (l' := #[.val (.ref ar), .val (.int md), .val (.int 5), .val (.long ((((((1 : Int64) * (md).toInt64) * (md).toInt64) * (md).toInt64) * (md).toInt64) * (md).toInt64)), .second, .val (.int 4)]) rfl (XT.iincV X19.here hx rfl 1 (hb hby d2_89) (by decide) rfl (l' := #[.val (.ref ar), .val (.int md), .val (.int 5), .val (.long ((((((1 : Int64) * (md).toInt64) * (md).toInt64) * (md).toInt64) * (md).toInt64) * (md).toInt64)), .second, .val (.int 5)]) rfl (XS.goto X19.here hx rfl (pc0 := 92) (pc' := 53) rfl (hb hby d2_92) (by decide) (by decide) (XS.iload X19.here hx rfl (hb hby d2_53) rfl (XS.iloadN X19.here hx rfl (hb hby d2_55) rfl (XS.icmpYes X19.here hx rfl (pc0 := 56) (pc' := 95) rfl (hb hby d2_56) rfl (flt (by decide)).2.1 (by decide) (by decide) (XS.aloadN X19.here hx rfl (hb hby d2_95) rfl rfl (XS.iloadN X19.here hx rfl (hb hby d2_96) rfl k)))))))))))) ?_
  obtain ⟨T21, h21, X21, e21, W21, st21⟩ := putF X19 hx hZ hown (host := "") (Or.inl (ow hw 17 rfl)) Via.refl e19 f20_2 f20_1 (Or.inr ⟨(ow hw 18 rfl), rfl, hnm⟩) (ow hw 5 rfl) (ty := .int) (by decide) rfl rfl (g := (mkF m 97 #[.val (.ref ar), .val (.int md), .val (.int 5), .val (.long ((((((1 : Int64) * (md).toInt64) * (md).toInt64) * (md).toInt64) * (md).toInt64) * (md).toInt64)), .second, .val (.int 5)] [(.int md), (.ref ar)])) rfl rfl (hb hby d2_97)
  have Fw21 := f20_2.same W21
  have f22_0 := Nat.le_trans f20_0 (Keep.of_wr W21).1
  have f22_1 := f20_1.wr W21
  have f22_2 := f20_3.other W21 (Or.inr (slot_ne (Or.inr (ow hw 20 rfl)) (Or.inr (ow hw 18 rfl)) (by decide) (t := .int) (t' := .int) (by decide) (by decide)))
  have f22_3 := f20_4.other W21 (Or.inr (slot_ne (Or.inr (ow hw 31 rfl)) (Or.inr (ow hw 18 rfl)) (by decide) (t := .int) (t' := .int) (by decide) (by decide)))
  have f22_4 := f20_5.wr W21 (Or.inl (List.mem_of_getElem? (i := 0) rfl))
  have f22_5 := f20_6.other W21 (Or.inr (slot_ne (Or.inr (ow hw 15 rfl)) (Or.inr (ow hw 18 rfl)) (by decide) (t := (.array .long)) (t' := .int) (by decide) (by decide)))
  have f22_6 := V19.other W21 (Ne.symm ne_ar_b2)
  have N21 := Fr.snoc X21 N19 g_ar
  refine Wp.back (U' := (T21.setTop (mkF m 100 #[.val (.ref ar), .val (.int md), .val (.int 5), .val (.long ((((((1 : Int64) * (md).toInt64) * (md).toInt64) * (md).toInt64) * (md).toInt64) * (md).toInt64)), .second, .val (.int 5)] []))) st21 ?_
  refine Wp.back (U' := (T21.setTop (mkF m 102 #[.val (.ref ar), .val (.int md), .val (.int 5), .val (.long ((((((1 : Int64) * (md).toInt64) * (md).toInt64) * (md).toInt64) * (md).toInt64) * (md).toInt64)), .second, .val (.int 5)] [(.int 5), (.ref ar)]))) (fun t k => XS.aloadN X21.here hx rfl (hb hby d2_100) rfl rfl (XS.iloadN X21.here hx rfl (hb hby d2_101) rfl k)) ?_
  obtain ⟨T23, h23, X23, e23, W23, st23⟩ := putF X21 hx hZ hown (host := "") (Or.inl (ow hw 19 rfl)) Via.refl e21 f22_2 f22_1 (Or.inr ⟨(ow hw 20 rfl), rfl, hnm⟩) (ow hw 5 rfl) (ty := .int) (by decide) rfl rfl (g := (mkF m 102 #[.val (.ref ar), .val (.int md), .val (.int 5), .val (.long ((((((1 : Int64) * (md).toInt64) * (md).toInt64) * (md).toInt64) * (md).toInt64) * (md).toInt64)), .second, .val (.int 5)] [(.int 5), (.ref ar)])) rfl rfl (hb hby d2_102)
  have Fw23 := f22_2.same W23
  have f24_0 := Nat.le_trans f22_0 (Keep.of_wr W23).1
  have f24_1 := f22_1.wr W23
  have f24_2 := f22_3.other W23 (Or.inr (slot_ne (Or.inr (ow hw 31 rfl)) (Or.inr (ow hw 20 rfl)) (by decide) (t := .int) (t' := .int) (by decide) (by decide)))
  have f24_3 := f22_4.wr W23 (Or.inl (List.mem_of_getElem? (i := 0) rfl))
  have f24_4 := f22_5.other W23 (Or.inr (slot_ne (Or.inr (ow hw 15 rfl)) (Or.inr (ow hw 20 rfl)) (by decide) (t := (.array .long)) (t' := .int) (by decide) (by decide)))
  have f24_5 := f22_6.other W23 (Ne.symm ne_ar_b2)
  have f24_6 := Fw21.other W23 (Or.inr (slot_ne (Or.inr (ow hw 18 rfl)) (Or.inr (ow hw 20 rfl)) (by decide) (t := .int) (t' := .int) (by decide) (by decide)))
  have N23 := Fr.snoc X23 N21 g_ar
  refine Wp.back (U' := (T23.setTop (mkF m 105 #[.val (.ref ar), .val (.int md), .val (.int 5), .val (.long ((((((1 : Int64) * (md).toInt64) * (md).toInt64) * (md).toInt64) * (md).toInt64) * (md).toInt64)), .second, .val (.int 5)] []))) st23 ?_
  refine Wp.back (U' := (T23.setTop (mkF m 111 #[.val (.ref ar), .val (.int md), .val (.int 5), .val (.long ((((((1 : Int64) * (md).toInt64) * (md).toInt64) * (md).toInt64) * (md).toInt64) * (md).toInt64)), .second, .val (.int 5)] [(.long (((((((1 : Int64) * (md).toInt64) * (md).toInt64) * (md).toInt64) * (md).toInt64) * (md).toInt64) - (1 : Int64))), (.int 64), (.ref ar)]))) (fun t k => XS.aloadN X23.here hx rfl (hb hby d2_105) rfl rfl (XT.bipushV X23.here hx rfl 64 (hb hby d2_106) (by decide) (XS.lloadN X23.here hx rfl (hb hby d2_108) rfl (XT.lconstV X23.here hx rfl (1 : Int64) (hb hby d2_109) (by decide) (XS.lsub X23.here hx rfl (hb hby d2_110) rfl k))))) ?_
  obtain ⟨_, _, ⟨T25, L25, k25, n25⟩, -, X25, ⟨Lc25, hQ25, l25, y25, z25⟩, st25⟩ := Jvm.LawKit.callS X23 hx (y := Y1) hown (mvT hZ (ow hw 21 rfl)) (mvT hZ (ow hw 22 rfl)) (mvT hZ (ow hw 23 rfl)) (mvT hZ (ow hw 24 rfl)) (by decide) (backOf (W := 2) (rm_f_lnz l Z a0 hw [] (((((((1 : Int64) * (md).toInt64) * (md).toInt64) * (md).toInt64) * (md).toInt64) * (md).toInt64) - (1 : Int64)) h23 n0 f24_0 ) hZ (ow hw 24 rfl) (ow hw 23 rfl) (by decide) (by decide)) (g := (mkF m 111 #[.val (.ref ar), .val (.int md), .val (.int 5), .val (.long ((((((1 : Int64) * (md).toInt64) * (md).toInt64) * (md).toInt64) * (md).toInt64) * (md).toInt64)), .second, .val (.int 5)] [(.long (((((((1 : Int64) * (md).toInt64) * (md).toInt64) * (md).toInt64) * (md).toInt64) * (md).toInt64) - (1 : Int64))), (.int 64), (.ref ar)])) rfl (by rw [hml]; rfl) (argsL := [(.long (((((((1 : Int64) * (md).toInt64) * (md).toInt64) * (md).toInt64) * (md).toInt64) * (md).toInt64) - (1 : Int64)))]) (rest := [(.int 64), (.ref ar)]) (lenOf pd_2 rfl) rfl (Nat.le_of_eq rfl) (hb hby d2_111) (fun _ _ => ⟨rfl, e23, (by decide : 1 + 0 ≤ _), (by decide : 5 + 0 ≤ _)⟩)
  dsimp only [Pt.U, Pt.locs, Pt.cells, Pt.slots] at X25 l25 y25 z25 st25 hQ25
  subst l25 y25 z25
  obtain ⟨rfl, N25q, e25⟩ := hQ25
  have N25 := Fr.app N23 N25q
  refine Wp.back (U' := (T25.setTop (mkF m 114 #[.val (.ref ar), .val (.int md), .val (.int 5), .val (.long ((((((1 : Int64) * (md).toInt64) * (md).toInt64) * (md).toInt64) * (md).toInt64) * (md).toInt64)), .second, .val (.int 5)] [(.int (f_lnz (((((((1 : Int64) * (md).toInt64) * (md).toInt64) * (md).toInt64) * (md).toInt64) * (md).toInt64) - (1 : Int64)))), (.int 64), (.ref ar)]))) st25 ?_
  refine Wp.back (U' := (T25.setTop (mkF m 115 #[.val (.ref ar), .val (.int md), .val (.int 5), .val (.long ((((((1 : Int64) * (md).toInt64) * (md).toInt64) * (md).toInt64) * (md).toInt64) * (md).toInt64)), .second, .val (.int 5)] [(.int ((64 : Int32) - (f_lnz (((((((1 : Int64) * (md).toInt64) * (md).toInt64) * (md).toInt64) * (md).toInt64) * (md).toInt64) - (1 : Int64))))), (.ref ar)]))) (fun t k => XS.isub X25.here hx rfl (hb hby d2_114) rfl k) ?_
  obtain ⟨T26, h26, X26, e26, W26, st26⟩ := putF X25 hx hZ hown (host := "") (Or.inl (ow hw 30 rfl)) Via.refl e25 f24_2 f24_1 (Or.inr ⟨(ow hw 31 rfl), rfl, hnm⟩) (ow hw 5 rfl) (ty := .int) (by decide) rfl rfl (g := (mkF m 115 #[.val (.ref ar), .val (.int md), .val (.int 5), .val (.long ((((((1 : Int64) * (md).toInt64) * (md).toInt64) * (md).toInt64) * (md).toInt64) * (md).toInt64)), .second, .val (.int 5)] [(.int ((64 : Int32) - (f_lnz (((((((1 : Int64) * (md).toInt64) * (md).toInt64) * (md).toInt64) * (md).toInt64) * (md).toInt64) - (1 : Int64))))), (.ref ar)])) rfl rfl (hb hby d2_115)
  have Fw26 := f24_2.same W26
  have f27_0 := Nat.le_trans f24_0 (Keep.of_wr W26).1
  have f27_1 := f24_1.wr W26
  have f27_2 := f24_3.wr W26 (Or.inl (List.mem_of_getElem? (i := 0) rfl))
  have f27_3 := f24_4.other W26 (Or.inr (slot_ne (Or.inr (ow hw 15 rfl)) (Or.inr (ow hw 31 rfl)) (by decide) (t := (.array .long)) (t' := .int) (by decide) (by decide)))
  have f27_4 := f24_5.other W26 (Ne.symm ne_ar_b2)
  have f27_5 := f24_6.other W26 (Or.inr (slot_ne (Or.inr (ow hw 18 rfl)) (Or.inr (ow hw 31 rfl)) (by decide) (t := .int) (t' := .int) (by decide) (by decide)))
  have f27_6 := Fw23.other W26 (Or.inr (slot_ne (Or.inr (ow hw 20 rfl)) (Or.inr (ow hw 31 rfl)) (by decide) (t := .int) (t' := .int) (by decide) (by decide)))
  have N26 := Fr.snoc X26 N25 g_ar
  refine Wp.back (U' := (T26.setTop (mkF m 118 #[.val (.ref ar), .val (.int md), .val (.int 5), .val (.long ((((((1 : Int64) * (md).toInt64) * (md).toInt64) * (md).toInt64) * (md).toInt64) * (md).toInt64)), .second, .val (.int 5)] []))) st26 ?_
  obtain ⟨fs, hr, hrun, hended, hW, hsame⟩ := X26.leave (v := none) (fun _ => rfl)
  refine Wp.done (X26.returnOut hx hret (hb hby d2_118) hr) hrun hended ⟨_, _, rfl, ?_, ⟨_, rfl⟩, hW, hsame.mono (by decide) (by decide)⟩
  show Q_ini5 Z ar md h0 n0 _ T26.heap _
  rw [e26]
  exact ⟨b2, k2, rfl, N26, f27_2, sz_b2, f27_1, f27_3, f27_6, Fw26, f27_4⟩
abbrev own_P1 (md bb : Int32) : Prop := ¬ md < (2 : Int32) ∧ (md).toInt64 ≠ 0 ∧ ¬ ((144115188075855872 : Int64) / (md).toInt64) < (1 : Int64) ∧ ((64 : Int32) - (f_lnz (((1 : Int64) * (md).toInt64) - (1 : Int64)))) = bb
abbrev own_R1 (md bb : Int32) : Prop := (1 ≤ bb.toInt ∧ bb.toInt ≤ 20 ∧ 24 + 4 * bb.toInt ≤ 64 ∧ md.toInt ≤ 1000 ∧ md.toInt ^ 1 ≤ 2 ^ bb.toInt.toNat)
abbrev own_P2 (md bb : Int32) : Prop := ¬ md < (2 : Int32) ∧ (md).toInt64 ≠ 0 ∧ ¬ ((144115188075855872 : Int64) / (md).toInt64) < (1 : Int64) ∧ ¬ ((144115188075855872 : Int64) / (md).toInt64) < ((1 : Int64) * (md).toInt64) ∧ ((64 : Int32) - (f_lnz ((((1 : Int64) * (md).toInt64) * (md).toInt64) - (1 : Int64)))) = bb
abbrev own_R2 (md bb : Int32) : Prop := (1 ≤ bb.toInt ∧ bb.toInt ≤ 20 ∧ 24 + 2 * bb.toInt ≤ 64 ∧ md.toInt ≤ 1000 ∧ md.toInt ^ 2 ≤ 2 ^ bb.toInt.toNat)
abbrev own_P3 (md bb : Int32) : Prop := ¬ md < (2 : Int32) ∧ (md).toInt64 ≠ 0 ∧ ¬ ((144115188075855872 : Int64) / (md).toInt64) < (1 : Int64) ∧ ¬ ((144115188075855872 : Int64) / (md).toInt64) < ((1 : Int64) * (md).toInt64) ∧ ¬ ((144115188075855872 : Int64) / (md).toInt64) < (((1 : Int64) * (md).toInt64) * (md).toInt64) ∧ ((64 : Int32) - (f_lnz (((((1 : Int64) * (md).toInt64) * (md).toInt64) * (md).toInt64) - (1 : Int64)))) = bb
abbrev own_R3 (md bb : Int32) : Prop := (1 ≤ bb.toInt ∧ bb.toInt ≤ 20 ∧ 24 + 2 * bb.toInt ≤ 64 ∧ md.toInt ≤ 1000 ∧ md.toInt ^ 3 ≤ 2 ^ bb.toInt.toNat)
abbrev own_P5 (md bb : Int32) : Prop := ¬ md < (2 : Int32) ∧ (md).toInt64 ≠ 0 ∧ ¬ ((144115188075855872 : Int64) / (md).toInt64) < (1 : Int64) ∧ ¬ ((144115188075855872 : Int64) / (md).toInt64) < ((1 : Int64) * (md).toInt64) ∧ ¬ ((144115188075855872 : Int64) / (md).toInt64) < (((1 : Int64) * (md).toInt64) * (md).toInt64) ∧ ¬ ((144115188075855872 : Int64) / (md).toInt64) < ((((1 : Int64) * (md).toInt64) * (md).toInt64) * (md).toInt64) ∧ ¬ ((144115188075855872 : Int64) / (md).toInt64) < (((((1 : Int64) * (md).toInt64) * (md).toInt64) * (md).toInt64) * (md).toInt64) ∧ ((64 : Int32) - (f_lnz (((((((1 : Int64) * (md).toInt64) * (md).toInt64) * (md).toInt64) * (md).toInt64) * (md).toInt64) - (1 : Int64)))) = bb
abbrev own_R5 (md bb : Int32) : Prop := (1 ≤ bb.toInt ∧ bb.toInt ≤ 20 ∧ 24 + 1 * bb.toInt ≤ 64 ∧ md.toInt ≤ 1000 ∧ md.toInt ^ 5 ≤ 2 ^ bb.toInt.toNat)
def own_OK (g md bb : Int32) : Prop := (g = (1 : Int32) ∧ own_P1 md bb ∧ own_R1 md bb) ∨ (g = (2 : Int32) ∧ own_P2 md bb ∧ own_R2 md bb) ∨ (g = (3 : Int32) ∧ own_P3 md bb ∧ own_R3 md bb) ∨ (g = (5 : Int32) ∧ own_P5 md bb ∧ own_R5 md bb)
theorem own_pw1 {md : Int32} (i : Nat) (hi : i < (1 : Int32).toNatClampNeg) : (own_P md).getD i (.long (0 : Int64)) = [(.long (1 : Int64))].getD i (.long (0 : Int64)) := by
  have e : (1 : Int32).toNatClampNeg = 1 := by decide
  rw [e] at hi
  match i, hi with
  | 0, _ => rfl
theorem own_pw2 {md : Int32} (i : Nat) (hi : i < (2 : Int32).toNatClampNeg) : (own_P md).getD i (.long (0 : Int64)) = [(.long (1 : Int64)), (.long ((1 : Int64) * (md).toInt64))].getD i (.long (0 : Int64)) := by
  have e : (2 : Int32).toNatClampNeg = 2 := by decide
  rw [e] at hi
  match i, hi with
  | 0, _ => rfl
  | 1, _ => rfl
theorem own_pw3 {md : Int32} (i : Nat) (hi : i < (3 : Int32).toNatClampNeg) : (own_P md).getD i (.long (0 : Int64)) = [(.long (1 : Int64)), (.long ((1 : Int64) * (md).toInt64)), (.long (((1 : Int64) * (md).toInt64) * (md).toInt64))].getD i (.long (0 : Int64)) := by
  have e : (3 : Int32).toNatClampNeg = 3 := by decide
  rw [e] at hi
  match i, hi with
  | 0, _ => rfl
  | 1, _ => rfl
  | 2, _ => rfl
theorem own_pw5 {md : Int32} (i : Nat) (hi : i < (5 : Int32).toNatClampNeg) : (own_P md).getD i (.long (0 : Int64)) = [(.long (1 : Int64)), (.long ((1 : Int64) * (md).toInt64)), (.long (((1 : Int64) * (md).toInt64) * (md).toInt64)), (.long ((((1 : Int64) * (md).toInt64) * (md).toInt64) * (md).toInt64)), (.long (((((1 : Int64) * (md).toInt64) * (md).toInt64) * (md).toInt64) * (md).toInt64))].getD i (.long (0 : Int64)) := by
  have e : (5 : Int32).toNatClampNeg = 5 := by decide
  rw [e] at hi
  match i, hi with
  | 0, _ => rfl
  | 1, _ => rfl
  | 2, _ => rfl
  | 3, _ => rfl
  | 4, _ => rfl
def Q_ini (Z : State) (ar : Addr) (md : Int32) (g : Int32) (bb : Int32) (h0 : Heap) (n0 : Nat) (v : Option Value) (h : Heap) (L : List Loc) : Prop := ∃ fr0 : Addr, ∃ fk0 : ClassId, v = none ∧ Fr n0 L ∧ Keep h0 h [ar] ∧ h0.size ≤ fr0 ∧ Exa Z h ar "com/example/known_leaks/knownleaks/CellPacking" ∧ Fld Z h ar "com/example/known_leaks/knownleaks/CellPacking" "powers" "[J" (.ref fr0) ∧ Fld Z h ar "com/example/known_leaks/knownleaks/CellPacking" "cellsPerBlock" "I" (.int g) ∧ Fld Z h ar "com/example/known_leaks/knownleaks/CellPacking" "blockBits" "I" (.int bb) ∧ Arv Z h fr0 fk0 .long g (own_P md) (.long (0 : Int64))
set_option maxRecDepth 65536 in
set_option maxHeartbeats 40000000 in
theorem rm_ini (l : Launch) (Z : State) (a0 : Array Value) (hw : ∀ d ∈ tables_1, d.before a0 Z = true) (ws : List Jvm.Cond) (ar : Addr) (md : Int32) (g : Int32) (bb : Int32) (h0 : Heap) (n0 : Nat) (Z0 : n0 ≤ h0.size) (H0 : Exa Z h0 ar "com/example/known_leaks/knownleaks/CellPacking") (H1 : Fld Z h0 ar "com/example/known_leaks/knownleaks/CellPacking" "powers" "[J" .null) (H2 : Fld Z h0 ar "com/example/known_leaks/knownleaks/CellPacking" "modulus" "I" (.int 0)) (H3 : Fld Z h0 ar "com/example/known_leaks/knownleaks/CellPacking" "cellsPerBlock" "I" (.int 0)) (H4 : Fld Z h0 ar "com/example/known_leaks/knownleaks/CellPacking" "blockBits" "I" (.int 0)) (g_ar : n0 ≤ ar) (hok : own_OK g md bb) :
    Met l Z Y6 prog_4_method_1_code 6 none ws ({ frames := 2, cells := 1, slots := 5, locals := 30 } : Room) #[(.ref ar), (.int md), (.int g)] h0 (Q_ini Z ar md g bb h0 n0) := by
  rcases hok with ⟨rfl, hP, -⟩ | ⟨rfl, hP, -⟩ | ⟨rfl, hP, -⟩ | ⟨rfl, hP, -⟩
  · obtain ⟨h2, hnz, hp0, rfl⟩ := hP
    refine own_mono (rm_ini1 l Z a0 hw ws ar md h0 n0 Z0 H0 H1 H2 H3 H4 g_ar h2 hnz hp0) ?_
    rintro v h L ⟨fr0, fk0, r1, r2, r3, r4, r5, r6, r7, r8, r9⟩
    exact ⟨fr0, fk0, r1, r2, r3, r4, r5, r6, r7, r8, own_res r9 (fun i hi => own_pw1 i hi)⟩
  · obtain ⟨h2, hnz, hp0, hp1, rfl⟩ := hP
    refine own_mono (rm_ini2 l Z a0 hw ws ar md h0 n0 Z0 H0 H1 H2 H3 H4 g_ar h2 hnz hp0 hp1) ?_
    rintro v h L ⟨fr0, fk0, r1, r2, r3, r4, r5, r6, r7, r8, r9⟩
    exact ⟨fr0, fk0, r1, r2, r3, r4, r5, r6, r7, r8, own_res r9 (fun i hi => own_pw2 i hi)⟩
  · obtain ⟨h2, hnz, hp0, hp1, hp2, rfl⟩ := hP
    refine own_mono (rm_ini3 l Z a0 hw ws ar md h0 n0 Z0 H0 H1 H2 H3 H4 g_ar h2 hnz hp0 hp1 hp2) ?_
    rintro v h L ⟨fr0, fk0, r1, r2, r3, r4, r5, r6, r7, r8, r9⟩
    exact ⟨fr0, fk0, r1, r2, r3, r4, r5, r6, r7, r8, own_res r9 (fun i hi => own_pw3 i hi)⟩
  · obtain ⟨h2, hnz, hp0, hp1, hp2, hp3, hp4, rfl⟩ := hP
    refine own_mono (rm_ini5 l Z a0 hw ws ar md h0 n0 Z0 H0 H1 H2 H3 H4 g_ar h2 hnz hp0 hp1 hp2 hp3 hp4) ?_
    rintro v h L ⟨fr0, fk0, r1, r2, r3, r4, r5, r6, r7, r8, r9⟩
    exact ⟨fr0, fk0, r1, r2, r3, r4, r5, r6, r7, r8, own_res r9 (fun i hi => own_pw5 i hi)⟩
def f_ca (f : Int32 → Int32) (n : Int32) (p1 : Int32) : Int64 := (if p1 < n then ((f p1)).toInt64 else (0 : Int64))
def Q_ca (Z : State) (ce : Addr) (p1 : Int32) (kc : ClassId) (n : Int32) (f : Int32 → Int32) (h0 : Heap) (n0 : Nat) (v : Option Value) (h : Heap) (L : List Loc) : Prop := v = some (.long (f_ca f n p1)) ∧ Fr n0 L ∧ Keep h0 h []
theorem d8_0 : decode method_4_code 0 = .ok (.iload_n 1, 1) := by decide +kernel
theorem d8_1 : decode method_4_code 1 = .ok (.aload_n 0, 1) := by decide +kernel
theorem d8_2 : decode method_4_code 2 = .ok (.arraylength, 1) := by decide +kernel
theorem d8_3 : decode method_4_code 3 = .ok (.if_icmp .ge 8, 3) := by decide +kernel
theorem d8_6 : decode method_4_code 6 = .ok (.aload_n 0, 1) := by decide +kernel
theorem d8_7 : decode method_4_code 7 = .ok (.iload_n 1, 1) := by decide +kernel
theorem d8_8 : decode method_4_code 8 = .ok (.iaload, 1) := by decide +kernel
theorem d8_9 : decode method_4_code 9 = .ok (.i2l, 1) := by decide +kernel
theorem d8_10 : decode method_4_code 10 = .ok (.lreturn, 1) := by decide +kernel
theorem d8_11 : decode method_4_code 11 = .ok (.lconst 0, 1) := by decide +kernel
theorem d8_12 : decode method_4_code 12 = .ok (.lreturn, 1) := by decide +kernel
theorem pn8 : plainName "com/example/known_leaks/knownleaks/CellPackingWritePinLaw" = true := by first | (simp [plainName, overriddenIn]; done) | decide +kernel
theorem ef8_RI (m : MethodId) (x0 : Addr) (x1 : Int32) : entryFrame m #[(.ref x0), (.int x1)] 2 = mkF m 0 #[.val (.ref x0), .val (.int x1)] [] := by first | (simp [entryFrame, mkF, argsToLocals, Value.category]; done) | rfl
set_option maxRecDepth 65536 in
set_option maxHeartbeats 40000000 in
theorem rm_ca (l : Launch) (Z : State) (a0 : Array Value) (hw : ∀ d ∈ tables_1, d.before a0 Z = true) (ws : List Jvm.Cond) (ce : Addr) (p1 : Int32) (kc : ClassId) (n : Int32) (f : Int32 → Int32) (h0 : Heap) (n0 : Nat) (Z0 : n0 ≤ h0.size) (H0 : Arv Z h0 ce kc .int n (own_C f) (.int 0)) (hp : ¬ p1 < 0) (hn4 : ∀ x : Int32, x < n → x < 4) :
    Met l Z Y7 method_4_code 2 (some .long) ws ({ frames := 0, cells := 0, slots := 0, locals := 0 } : Room) #[(.ref ce), (.int p1)] h0 (Q_ca Z ce p1 kc n f h0 n0) := by
  refine own_body (plainFor_of_name pn8) ?_
  intro p e s m below meth c s₁ hx hby hret hlk hml hZ hown hnm X0 e0
  have N0 := Fr.nil n0
  refine Wp.back (U' := (s₁.setTop (mkF m 0 #[.val (.ref ce), .val (.int p1)] []))) (fun t k => castTop (ef8_RI m ce p1) k) ?_
  refine Wp.back (U' := (s₁.setTop (mkF m 2 #[.val (.ref ce), .val (.int p1)] [(.ref ce), (.int p1)]))) (fun t k => XS.iloadN X0.here hx rfl (hb hby d8_0) rfl (XS.aloadN X0.here hx rfl (hb hby d8_1) rfl rfl k)) ?_
  have vq1 := H0
  obtain ⟨cl1, Ar1, -, qs1, qn1, -, -⟩ := vq1
  refine Wp.back (U' := (s₁.setTop (mkF m 3 #[.val (.ref ce), .val (.int p1)] [(.int n), (.int p1)]))) (fun t k => X0.arraylength hx (by rw [e0]; exact Ar1.1) (State.isArrayOf_alike hZ.alike Ar1.2.1) (g := (mkF m 2 #[.val (.ref ce), .val (.int p1)] [(.ref ce), (.int p1)])) rfl rfl (hb hby d8_2) t (by rw [len_of qs1 qn1]; exact k)) ?_
  by_cases c3_2 : p1 < n
  · refine Wp.back (U' := (s₁.setTop (mkF m 8 #[.val (.ref ce), .val (.int p1)] [(.int p1), (.ref ce)]))) (fun t k => XS.icmpNo X0.here hx rfl (hb hby d8_3) rfl (tlt c3_2).2.1 (XS.aloadN X0.here hx rfl (hb hby d8_6) rfl rfl (XS.iloadN X0.here hx rfl (hb hby d8_7) rfl k))) ?_
    have vq3 := H0
    obtain ⟨cl3, Ar3, qa3, qs3, qn3, qh3, qg3⟩ := vq3
    have hin3 : ¬ (p1 < 0 ∨ cl3.slots.size ≤ (p1).toNatClampNeg) := inb_of qs3 ⟨hp, c3_2⟩
    have hat3 : cl3.slots[(p1).toNatClampNeg]? = some (.int (f p1)) := Has.at qh3 hin3 (own_getC f ⟨hp, hn4 _ c3_2⟩)
    refine Wp.back (U' := (s₁.setTop (mkF m 9 #[.val (.ref ce), .val (.int p1)] [(.int (f p1))]))) (fun t k => X0.iaload hx (j := p1) (v := (.int (f p1))) (by rw [e0]; exact Ar3.1) (State.isArrayOf_alike hZ.alike Ar3.2.1) Ar3.2.2 hin3 hat3 (g := (mkF m 8 #[.val (.ref ce), .val (.int p1)] [(.int p1), (.ref ce)])) rfl rfl (hb hby d8_8) t k) ?_
    refine Wp.back (U' := (s₁.setTop (mkF m 10 #[.val (.ref ce), .val (.int p1)] [(.long ((f p1)).toInt64)]))) (fun t k => XS.i2l X0.here hx rfl (hb hby d8_9) rfl k) ?_
    obtain ⟨fs, hr, hrun, hended, hW, hsame⟩ := X0.leave (v := (some (.long ((f p1)).toInt64))) (fun h => by rw [hret] at h; cases h)
    refine Wp.done (retOut X0 hx hret rfl (Or.inr (Or.inl ⟨rfl, rfl, _, rfl⟩)) (hb hby d8_10) hr) hrun hended ⟨_, _, rfl, ?_, ⟨_, rfl⟩, hW, hsame.mono (by decide) (by decide)⟩
    show Q_ca Z ce p1 kc n f h0 n0 _ s₁.heap _
    rw [e0]
    exact ⟨(by rw [f_ca, if_pos c3_2]), N0, (Keep.refl h0 [])⟩
  · refine Wp.back (U' := (s₁.setTop (mkF m 12 #[.val (.ref ce), .val (.int p1)] [(.long (0 : Int64))]))) (fun t k => XS.icmpYes X0.here hx rfl (pc0 := 3) (pc' := 11) rfl (hb hby d8_3) rfl (flt c3_2).2.1 (by decide) (by decide) (XT.lconstV X0.here hx rfl (0 : Int64) (hb hby d8_11) (by decide) k)) ?_
    obtain ⟨fs, hr, hrun, hended, hW, hsame⟩ := X0.leave (v := (some (.long (0 : Int64)))) (fun h => by rw [hret] at h; cases h)
    refine Wp.done (retOut X0 hx hret rfl (Or.inr (Or.inl ⟨rfl, rfl, _, rfl⟩)) (hb hby d8_12) hr) hrun hended ⟨_, _, rfl, ?_, ⟨_, rfl⟩, hW, hsame.mono (by decide) (by decide)⟩
    show Q_ca Z ce p1 kc n f h0 n0 _ s₁.heap _
    rw [e0]
    exact ⟨(by rw [f_ca, if_neg c3_2]), N0, (Keep.refl h0 [])⟩
def Q_bl1 (Z : State) (ce : Addr) (p1 : Int32) (mp : Addr) (kc : ClassId) (km : ClassId) (n : Int32) (md : Int32) (f : Int32 → Int32) (h0 : Heap) (n0 : Nat) (v : Option Value) (h : Heap) (L : List Loc) : Prop := v = some (.long ((f_ca f n (p1 * (1 : Int32))) * (1 : Int64))) ∧ Fr n0 L ∧ Keep h0 h []
theorem d7_0 : decode method_5_code 0 = .ok (.iload_n 1, 1) := by decide +kernel
theorem d7_1 : decode method_5_code 1 = .ok (.iload_n 2, 1) := by decide +kernel
theorem d7_2 : decode method_5_code 2 = .ok (.imul, 1) := by decide +kernel
theorem d7_3 : decode method_5_code 3 = .ok (.istore 4, 2) := by decide +kernel
theorem d7_5 : decode method_5_code 5 = .ok (.aload_n 0, 1) := by decide +kernel
theorem d7_6 : decode method_5_code 6 = .ok (.iload 4, 2) := by decide +kernel
theorem d7_8 : decode method_5_code 8 = .ok (.invokestatic 35, 3) := by decide +kernel
theorem d7_11 : decode method_5_code 11 = .ok (.aload_n 3, 1) := by decide +kernel
theorem d7_12 : decode method_5_code 12 = .ok (.iconst 0, 1) := by decide +kernel
theorem d7_13 : decode method_5_code 13 = .ok (.laload, 1) := by decide +kernel
theorem d7_14 : decode method_5_code 14 = .ok (.lmul, 1) := by decide +kernel
theorem d7_15 : decode method_5_code 15 = .ok (.lstore 5, 2) := by decide +kernel
theorem d7_17 : decode method_5_code 17 = .ok (.iload_n 2, 1) := by decide +kernel
theorem d7_18 : decode method_5_code 18 = .ok (.iconst 1, 1) := by decide +kernel
theorem d7_19 : decode method_5_code 19 = .ok (.if_icmp .le 20, 3) := by decide +kernel
theorem d7_39 : decode method_5_code 39 = .ok (.iload_n 2, 1) := by decide +kernel
theorem d7_40 : decode method_5_code 40 = .ok (.iconst 2, 1) := by decide +kernel
theorem d7_41 : decode method_5_code 41 = .ok (.if_icmp .le 20, 3) := by decide +kernel
theorem d7_61 : decode method_5_code 61 = .ok (.iload_n 2, 1) := by decide +kernel
theorem d7_62 : decode method_5_code 62 = .ok (.iconst 3, 1) := by decide +kernel
theorem d7_63 : decode method_5_code 63 = .ok (.if_icmp .le 20, 3) := by decide +kernel
theorem d7_83 : decode method_5_code 83 = .ok (.iload_n 2, 1) := by decide +kernel
theorem d7_84 : decode method_5_code 84 = .ok (.iconst 4, 1) := by decide +kernel
theorem d7_85 : decode method_5_code 85 = .ok (.if_icmp .le 20, 3) := by decide +kernel
theorem d7_105 : decode method_5_code 105 = .ok (.lload 5, 2) := by decide +kernel
theorem d7_107 : decode method_5_code 107 = .ok (.lreturn, 1) := by decide +kernel
theorem pd_3 : parseMethodDescriptor "([II)J" = some ⟨[(.array .int), .int], some .long⟩ := by decide +kernel
theorem pn7 : plainName "com/example/known_leaks/knownleaks/CellPackingWritePinLaw" = true := by first | (simp [plainName, overriddenIn]; done) | decide +kernel
theorem ef7_RIIR (m : MethodId) (x0 : Addr) (x1 : Int32) (x2 : Int32) (x3 : Addr) : entryFrame m #[(.ref x0), (.int x1), (.int x2), (.ref x3)] 7 = mkF m 0 #[.val (.ref x0), .val (.int x1), .val (.int x2), .val (.ref x3), .unset, .unset, .unset] [] := by first | (simp [entryFrame, mkF, argsToLocals, Value.category]; done) | rfl
set_option maxRecDepth 65536 in
set_option maxHeartbeats 40000000 in
theorem rm_bl1 (l : Launch) (Z : State) (a0 : Array Value) (hw : ∀ d ∈ tables_1, d.before a0 Z = true) (ws : List Jvm.Cond) (ce : Addr) (p1 : Int32) (mp : Addr) (kc : ClassId) (km : ClassId) (n : Int32) (md : Int32) (f : Int32 → Int32) (h0 : Heap) (n0 : Nat) (Z0 : n0 ≤ h0.size) (H0 : Arv Z h0 ce kc .int n (own_C f) (.int 0)) (H1 : Arv Z h0 mp km .long (5 : Int32) [(.long (1 : Int64)), (.long (md).toInt64), (.long ((md).toInt64 * (md).toInt64)), (.long (((md).toInt64 * (md).toInt64) * (md).toInt64)), (.long ((((md).toInt64 * (md).toInt64) * (md).toInt64) * (md).toInt64))] (.long (0 : Int64))) (hq0 : ¬ (p1 * (1 : Int32)) < 0) (hn4 : ∀ x : Int32, x < n → x < 4) :
    Met l Z Y8 method_5_code 7 (some .long) ws ({ frames := 1, cells := 0, slots := 0, locals := 40 } : Room) #[(.ref ce), (.int p1), (.int 1), (.ref mp)] h0 (Q_bl1 Z ce p1 mp kc km n md f h0 n0) := by
  refine own_body (plainFor_of_name pn7) ?_
  intro p e s m below meth c s₁ hx hby hret hlk hml hZ hown hnm X0 e0
  have N0 := Fr.nil n0
  refine Wp.back (U' := (s₁.setTop (mkF m 0 #[.val (.ref ce), .val (.int p1), .val (.int 1), .val (.ref mp), .unset, .unset, .unset] []))) (fun t k => castTop (ef7_RIIR m ce p1 (1 : Int32) mp) k) ?_
  refine Wp.back (U' := (s₁.setTop (mkF m 8 #[.val (.ref ce), .val (.int p1), .val (.int 1), .val (.ref mp), .val (.int (p1 * (1 : Int32))), .unset, .unset] [(.int (p1 * (1 : Int32))), (.ref ce)]))) (fun t k => XS.iloadN X0.here hx rfl (hb hby d7_0) rfl (XS.iloadN X0.here hx rfl (hb hby d7_1) rfl (XS.imul X0.here hx rfl (hb hby d7_2) rfl (XS.istore X0.here hx rfl (hb hby d7_3) rfl (l' := #[.val (.ref ce), .val (.int p1), .val (.int 1), .val (.ref mp), .val (.int (p1 * (1 : Int32))), .unset, .unset]) rfl (XS.aloadN X0.here hx rfl (hb hby d7_5) rfl rfl (XS.iload X0.here hx rfl (hb hby d7_6) rfl k)))))) ?_
  obtain ⟨_, _, ⟨T1, L1, k1, n1⟩, -, X1, ⟨Lc1, hQ1, l1, y1, z1⟩, st1⟩ := Jvm.LawKit.callS X0 hx (y := Y7) hown (mvT hZ (ow hw 42 rfl)) (mvT hZ (ow hw 43 rfl)) (mvT hZ (ow hw 2 rfl)) (mvT hZ (ow hw 44 rfl)) (by decide) (backOf (W := 0) (rm_ca l Z a0 hw [] ce (p1 * (1 : Int32)) kc n f h0 n0 Z0 H0 hq0 hn4) hZ (ow hw 44 rfl) (ow hw 2 rfl) (by decide) (by decide)) (g := (mkF m 8 #[.val (.ref ce), .val (.int p1), .val (.int 1), .val (.ref mp), .val (.int (p1 * (1 : Int32))), .unset, .unset] [(.int (p1 * (1 : Int32))), (.ref ce)])) rfl (by rw [hml]; rfl) (argsL := [(.ref ce), (.int (p1 * (1 : Int32)))]) (rest := []) (lenOf pd_3 rfl) rfl (Nat.le_of_eq rfl) (hb hby d7_8) (fun _ _ => ⟨rfl, e0, (by decide : 0 + 0 ≤ _), (by decide : 0 + 0 ≤ _)⟩)
  dsimp only [Pt.U, Pt.locs, Pt.cells, Pt.slots] at X1 l1 y1 z1 st1 hQ1
  subst l1 y1 z1
  obtain ⟨rfl, N1q, K1⟩ := hQ1
  have f2_0 := Nat.le_trans Z0 K1.1
  have f2_1 := H0.keep K1 nin0
  have f2_2 := H1.keep K1 nin0
  have f2_3 := (Keep.refl h0 []).trans K1 all0
  have N1 := Fr.app N0 N1q
  refine Wp.back (U' := (T1.setTop (mkF m 11 #[.val (.ref ce), .val (.int p1), .val (.int 1), .val (.ref mp), .val (.int (p1 * (1 : Int32))), .unset, .unset] [(.long (f_ca f n (p1 * (1 : Int32))))]))) st1 ?_
  refine Wp.back (U' := (T1.setTop (mkF m 13 #[.val (.ref ce), .val (.int p1), .val (.int 1), .val (.ref mp), .val (.int (p1 * (1 : Int32))), .unset, .unset] [(.int 0), (.ref mp), (.long (f_ca f n (p1 * (1 : Int32))))]))) (fun t k => XS.aloadN X1.here hx rfl (hb hby d7_11) rfl rfl (XT.iconstV X1.here hx rfl 0 (hb hby d7_12) (by decide) k)) ?_
  have vq3 := f2_2
  obtain ⟨cl3, Ar3, qa3, qs3, qn3, qh3, qg3⟩ := vq3
  have hin3 : ¬ ((0 : Int32) < 0 ∨ cl3.slots.size ≤ ((0 : Int32)).toNatClampNeg) := inb_of qs3 ⟨by decide, by decide⟩
  have hat3 : cl3.slots[((0 : Int32)).toNatClampNeg]? = some (.long (1 : Int64)) := Has.at qh3 hin3 rfl
  refine Wp.back (U' := (T1.setTop (mkF m 14 #[.val (.ref ce), .val (.int p1), .val (.int 1), .val (.ref mp), .val (.int (p1 * (1 : Int32))), .unset, .unset] [(.long (1 : Int64)), (.long (f_ca f n (p1 * (1 : Int32))))]))) (fun t k => X1.laload hx (j := (0 : Int32)) (v := (.long (1 : Int64))) Ar3.1 (State.isArrayOf_alike hZ.alike Ar3.2.1) Ar3.2.2 hin3 hat3 (g := (mkF m 13 #[.val (.ref ce), .val (.int p1), .val (.int 1), .val (.ref mp), .val (.int (p1 * (1 : Int32))), .unset, .unset] [(.int 0), (.ref mp), (.long (f_ca f n (p1 * (1 : Int32))))])) rfl rfl (hb hby d7_13) t k) ?_
  refine Wp.back (U' := (T1.setTop (mkF m 84 #[.val (.ref ce), .val (.int p1), .val (.int 1), .val (.ref mp), .val (.int (p1 * (1 : Int32))), .val (.long ((f_ca f n (p1 * (1 : Int32))) * (1 : Int64))), .second] [(.int 1)]))) (fun t k => XS.lmul X1.here hx rfl (hb hby d7_14) rfl (XS.lstore X1.here hx rfl (hb hby d7_15) rfl (l' := #[.val (.ref ce), .val (.int p1), .val (.int 1), .val (.ref mp), .val (.int (p1 * (1 : Int32))), .val (.long ((f_ca f n (p1 * (1 : Int32))) * (1 : Int64))), .second]) rfl (XS.iloadN X1.here hx rfl (hb hby d7_17) rfl (XT.iconstV X1.here hx rfl 1 (hb hby d7_18) (by decide) (XS.icmpYes X1.here hx rfl (pc0 := 19) (pc' := 39) rfl (hb hby d7_19) rfl (flt (by decide)).2.2.2 (by decide) (by decide) (XS.iloadN X1.here hx rfl (hb hby d7_39) rfl (XT.iconstV X1.here hx rfl 2 (hb hby d7_40) (by decide) (XS.icmpYes X1.here hx rfl (pc0 := 41) (pc' := 61) rfl (hb hby d7_41) rfl (flt (by decide)).2.2.2 (by decide) (by decide) (XS.iloadN X1.here hx rfl (hb hby d7_61) rfl (XT.iconstV X1.here hx rfl 3 (hb hby d7_62) (by decide) (XS.icmpYes X1.here hx rfl (pc0 := 63) (pc' := 83) rfl (hb hby d7_63) rfl (flt (by decide)).2.2.2 (by decide) (by decide) (XS.iloadN X1.here hx rfl (hb hby d7_83) rfl k)))))))))))) ?_
  refine Wp.back (U' := (T1.setTop (mkF m 107 #[.val (.ref ce), .val (.int p1), .val (.int 1), .val (.ref mp), .val (.int (p1 * (1 : Int32))), .val (.long ((f_ca f n (p1 * (1 : Int32))) * (1 : Int64))), .second] [(.long ((f_ca f n (p1 * (1 : Int32))) * (1 : Int64)))]))) (fun t k => XT.iconstV X1.here hx rfl 4 (hb hby d7_84) (by decide) (XS.icmpYes X1.here hx rfl (pc0 := 85) (pc' := 105) rfl (hb hby d7_85) rfl (flt (by decide)).2.2.2 (by decide) (by decide) (XS.lload X1.here hx rfl (hb hby d7_105) rfl k))) ?_
  obtain ⟨fs, hr, hrun, hended, hW, hsame⟩ := X1.leave (v := (some (.long ((f_ca f n (p1 * (1 : Int32))) * (1 : Int64))))) (fun h => by rw [hret] at h; cases h)
  refine Wp.done (retOut X1 hx hret rfl (Or.inr (Or.inl ⟨rfl, rfl, _, rfl⟩)) (hb hby d7_107) hr) hrun hended ⟨_, _, rfl, ?_, ⟨_, rfl⟩, hW, hsame.mono (by decide) (by decide)⟩
  show Q_bl1 Z ce p1 mp kc km n md f h0 n0 _ T1.heap _
  exact ⟨rfl, N1, f2_3⟩
def Q_bl2 (Z : State) (ce : Addr) (p1 : Int32) (mp : Addr) (kc : ClassId) (km : ClassId) (n : Int32) (md : Int32) (f : Int32 → Int32) (h0 : Heap) (n0 : Nat) (v : Option Value) (h : Heap) (L : List Loc) : Prop := v = some (.long (((f_ca f n (p1 * (2 : Int32))) * (1 : Int64)) + ((f_ca f n ((p1 * (2 : Int32)) + (1 : Int32))) * (md).toInt64))) ∧ Fr n0 L ∧ Keep h0 h []
theorem d7_22 : decode method_5_code 22 = .ok (.lload 5, 2) := by decide +kernel
theorem d7_24 : decode method_5_code 24 = .ok (.aload_n 0, 1) := by decide +kernel
theorem d7_25 : decode method_5_code 25 = .ok (.iload 4, 2) := by decide +kernel
theorem d7_27 : decode method_5_code 27 = .ok (.iconst 1, 1) := by decide +kernel
theorem d7_28 : decode method_5_code 28 = .ok (.iadd, 1) := by decide +kernel
theorem d7_29 : decode method_5_code 29 = .ok (.invokestatic 35, 3) := by decide +kernel
theorem d7_32 : decode method_5_code 32 = .ok (.aload_n 3, 1) := by decide +kernel
theorem d7_33 : decode method_5_code 33 = .ok (.iconst 1, 1) := by decide +kernel
theorem d7_34 : decode method_5_code 34 = .ok (.laload, 1) := by decide +kernel
theorem d7_35 : decode method_5_code 35 = .ok (.lmul, 1) := by decide +kernel
theorem d7_36 : decode method_5_code 36 = .ok (.ladd, 1) := by decide +kernel
theorem d7_37 : decode method_5_code 37 = .ok (.lstore 5, 2) := by decide +kernel
set_option maxRecDepth 65536 in
set_option maxHeartbeats 40000000 in
theorem rm_bl2 (l : Launch) (Z : State) (a0 : Array Value) (hw : ∀ d ∈ tables_1, d.before a0 Z = true) (ws : List Jvm.Cond) (ce : Addr) (p1 : Int32) (mp : Addr) (kc : ClassId) (km : ClassId) (n : Int32) (md : Int32) (f : Int32 → Int32) (h0 : Heap) (n0 : Nat) (Z0 : n0 ≤ h0.size) (H0 : Arv Z h0 ce kc .int n (own_C f) (.int 0)) (H1 : Arv Z h0 mp km .long (5 : Int32) [(.long (1 : Int64)), (.long (md).toInt64), (.long ((md).toInt64 * (md).toInt64)), (.long (((md).toInt64 * (md).toInt64) * (md).toInt64)), (.long ((((md).toInt64 * (md).toInt64) * (md).toInt64) * (md).toInt64))] (.long (0 : Int64))) (hq0 : ¬ (p1 * (2 : Int32)) < 0) (hq1 : ¬ ((p1 * (2 : Int32)) + (1 : Int32)) < 0) (hn4 : ∀ x : Int32, x < n → x < 4) :
    Met l Z Y8 method_5_code 7 (some .long) ws ({ frames := 1, cells := 0, slots := 0, locals := 40 } : Room) #[(.ref ce), (.int p1), (.int 2), (.ref mp)] h0 (Q_bl2 Z ce p1 mp kc km n md f h0 n0) := by
  refine own_body (plainFor_of_name pn7) ?_
  intro p e s m below meth c s₁ hx hby hret hlk hml hZ hown hnm X0 e0
  have N0 := Fr.nil n0
  refine Wp.back (U' := (s₁.setTop (mkF m 0 #[.val (.ref ce), .val (.int p1), .val (.int 2), .val (.ref mp), .unset, .unset, .unset] []))) (fun t k => castTop (ef7_RIIR m ce p1 (2 : Int32) mp) k) ?_
  refine Wp.back (U' := (s₁.setTop (mkF m 8 #[.val (.ref ce), .val (.int p1), .val (.int 2), .val (.ref mp), .val (.int (p1 * (2 : Int32))), .unset, .unset] [(.int (p1 * (2 : Int32))), (.ref ce)]))) (fun t k => XS.iloadN X0.here hx rfl (hb hby d7_0) rfl (XS.iloadN X0.here hx rfl (hb hby d7_1) rfl (XS.imul X0.here hx rfl (hb hby d7_2) rfl (XS.istore X0.here hx rfl (hb hby d7_3) rfl (l' := #[.val (.ref ce), .val (.int p1), .val (.int 2), .val (.ref mp), .val (.int (p1 * (2 : Int32))), .unset, .unset]) rfl (XS.aloadN X0.here hx rfl (hb hby d7_5) rfl rfl (XS.iload X0.here hx rfl (hb hby d7_6) rfl k)))))) ?_
  obtain ⟨_, _, ⟨T1, L1, k1, n1⟩, -, X1, ⟨Lc1, hQ1, l1, y1, z1⟩, st1⟩ := Jvm.LawKit.callS X0 hx (y := Y7) hown (mvT hZ (ow hw 42 rfl)) (mvT hZ (ow hw 43 rfl)) (mvT hZ (ow hw 2 rfl)) (mvT hZ (ow hw 44 rfl)) (by decide) (backOf (W := 0) (rm_ca l Z a0 hw [] ce (p1 * (2 : Int32)) kc n f h0 n0 Z0 H0 hq0 hn4) hZ (ow hw 44 rfl) (ow hw 2 rfl) (by decide) (by decide)) (g := (mkF m 8 #[.val (.ref ce), .val (.int p1), .val (.int 2), .val (.ref mp), .val (.int (p1 * (2 : Int32))), .unset, .unset] [(.int (p1 * (2 : Int32))), (.ref ce)])) rfl (by rw [hml]; rfl) (argsL := [(.ref ce), (.int (p1 * (2 : Int32)))]) (rest := []) (lenOf pd_3 rfl) rfl (Nat.le_of_eq rfl) (hb hby d7_8) (fun _ _ => ⟨rfl, e0, (by decide : 0 + 0 ≤ _), (by decide : 0 + 0 ≤ _)⟩)
  dsimp only [Pt.U, Pt.locs, Pt.cells, Pt.slots] at X1 l1 y1 z1 st1 hQ1
  subst l1 y1 z1
  obtain ⟨rfl, N1q, K1⟩ := hQ1
  have f2_0 := Nat.le_trans Z0 K1.1
  have f2_1 := H0.keep K1 nin0
  have f2_2 := H1.keep K1 nin0
  have f2_3 := (Keep.refl h0 []).trans K1 all0
  have N1 := Fr.app N0 N1q
  refine Wp.back (U' := (T1.setTop (mkF m 11 #[.val (.ref ce), .val (.int p1), .val (.int 2), .val (.ref mp), .val (.int (p1 * (2 : Int32))), .unset, .unset] [(.long (f_ca f n (p1 * (2 : Int32))))]))) st1 ?_
  refine Wp.back (U' := (T1.setTop (mkF m 13 #[.val (.ref ce), .val (.int p1), .val (.int 2), .val (.ref mp), .val (.int (p1 * (2 : Int32))), .unset, .unset] [(.int 0), (.ref mp), (.long (f_ca f n (p1 * (2 : Int32))))]))) (fun t k => XS.aloadN X1.here hx rfl (hb hby d7_11) rfl rfl (XT.iconstV X1.here hx rfl 0 (hb hby d7_12) (by decide) k)) ?_
  have vq3 := f2_2
  obtain ⟨cl3, Ar3, qa3, qs3, qn3, qh3, qg3⟩ := vq3
  have hin3 : ¬ ((0 : Int32) < 0 ∨ cl3.slots.size ≤ ((0 : Int32)).toNatClampNeg) := inb_of qs3 ⟨by decide, by decide⟩
  have hat3 : cl3.slots[((0 : Int32)).toNatClampNeg]? = some (.long (1 : Int64)) := Has.at qh3 hin3 rfl
  refine Wp.back (U' := (T1.setTop (mkF m 14 #[.val (.ref ce), .val (.int p1), .val (.int 2), .val (.ref mp), .val (.int (p1 * (2 : Int32))), .unset, .unset] [(.long (1 : Int64)), (.long (f_ca f n (p1 * (2 : Int32))))]))) (fun t k => X1.laload hx (j := (0 : Int32)) (v := (.long (1 : Int64))) Ar3.1 (State.isArrayOf_alike hZ.alike Ar3.2.1) Ar3.2.2 hin3 hat3 (g := (mkF m 13 #[.val (.ref ce), .val (.int p1), .val (.int 2), .val (.ref mp), .val (.int (p1 * (2 : Int32))), .unset, .unset] [(.int 0), (.ref mp), (.long (f_ca f n (p1 * (2 : Int32))))])) rfl rfl (hb hby d7_13) t k) ?_
  refine Wp.back (U' := (T1.setTop (mkF m 29 #[.val (.ref ce), .val (.int p1), .val (.int 2), .val (.ref mp), .val (.int (p1 * (2 : Int32))), .val (.long ((f_ca f n (p1 * (2 : Int32))) * (1 : Int64))), .second] [(.int ((p1 * (2 : Int32)) + (1 : Int32))), (.ref ce), (.long ((f_ca f n (p1 * (2 : Int32))) * (1 : Int64)))]))) (fun t k => XS.lmul X1.here hx rfl (hb hby d7_14) rfl (XS.lstore X1.here hx rfl (hb hby d7_15) rfl (l' := #[.val (.ref ce), .val (.int p1), .val (.int 2), .val (.ref mp), .val (.int (p1 * (2 : Int32))), .val (.long ((f_ca f n (p1 * (2 : Int32))) * (1 : Int64))), .second]) rfl (XS.iloadN X1.here hx rfl (hb hby d7_17) rfl (XT.iconstV X1.here hx rfl 1 (hb hby d7_18) (by decide) (XS.icmpNo X1.here hx rfl (hb hby d7_19) rfl (tlt (by decide)).2.2.2 (XS.lload X1.here hx rfl (hb hby d7_22) rfl (XS.aloadN X1.here hx rfl (hb hby d7_24) rfl rfl (XS.iload X1.here hx rfl (hb hby d7_25) rfl (XT.iconstV X1.here hx rfl 1 (hb hby d7_27) (by decide) (XS.iadd X1.here hx rfl (hb hby d7_28) rfl k)))))))))) ?_
  obtain ⟨_, _, ⟨T4, L4, k4, n4⟩, -, X4, ⟨Lc4, hQ4, l4, y4, z4⟩, st4⟩ := Jvm.LawKit.callS X1 hx (y := Y7) hown (mvT hZ (ow hw 42 rfl)) (mvT hZ (ow hw 43 rfl)) (mvT hZ (ow hw 2 rfl)) (mvT hZ (ow hw 44 rfl)) (by decide) (backOf (W := 2) (rm_ca l Z a0 hw [] ce ((p1 * (2 : Int32)) + (1 : Int32)) kc n f T1.heap n0 f2_0 f2_1 hq1 hn4) hZ (ow hw 44 rfl) (ow hw 2 rfl) (by decide) (by decide)) (g := (mkF m 29 #[.val (.ref ce), .val (.int p1), .val (.int 2), .val (.ref mp), .val (.int (p1 * (2 : Int32))), .val (.long ((f_ca f n (p1 * (2 : Int32))) * (1 : Int64))), .second] [(.int ((p1 * (2 : Int32)) + (1 : Int32))), (.ref ce), (.long ((f_ca f n (p1 * (2 : Int32))) * (1 : Int64)))])) rfl (by rw [hml]; rfl) (argsL := [(.ref ce), (.int ((p1 * (2 : Int32)) + (1 : Int32)))]) (rest := [(.long ((f_ca f n (p1 * (2 : Int32))) * (1 : Int64)))]) (lenOf pd_3 rfl) rfl (Nat.le_of_eq rfl) (hb hby d7_29) (fun _ _ => ⟨rfl, rfl, (by decide : 0 + 0 ≤ _), (by decide : 0 + 0 ≤ _)⟩)
  dsimp only [Pt.U, Pt.locs, Pt.cells, Pt.slots] at X4 l4 y4 z4 st4 hQ4
  subst l4 y4 z4
  obtain ⟨rfl, N4q, K4⟩ := hQ4
  have f5_0 := Nat.le_trans f2_0 K4.1
  have f5_1 := f2_1.keep K4 nin0
  have f5_2 := f2_2.keep K4 nin0
  have f5_3 := f2_3.trans K4 all0
  have N4 := Fr.app N1 N4q
  refine Wp.back (U' := (T4.setTop (mkF m 32 #[.val (.ref ce), .val (.int p1), .val (.int 2), .val (.ref mp), .val (.int (p1 * (2 : Int32))), .val (.long ((f_ca f n (p1 * (2 : Int32))) * (1 : Int64))), .second] [(.long (f_ca f n ((p1 * (2 : Int32)) + (1 : Int32)))), (.long ((f_ca f n (p1 * (2 : Int32))) * (1 : Int64)))]))) st4 ?_
  refine Wp.back (U' := (T4.setTop (mkF m 34 #[.val (.ref ce), .val (.int p1), .val (.int 2), .val (.ref mp), .val (.int (p1 * (2 : Int32))), .val (.long ((f_ca f n (p1 * (2 : Int32))) * (1 : Int64))), .second] [(.int 1), (.ref mp), (.long (f_ca f n ((p1 * (2 : Int32)) + (1 : Int32)))), (.long ((f_ca f n (p1 * (2 : Int32))) * (1 : Int64)))]))) (fun t k => XS.aloadN X4.here hx rfl (hb hby d7_32) rfl rfl (XT.iconstV X4.here hx rfl 1 (hb hby d7_33) (by decide) k)) ?_
  have vq6 := f5_2
  obtain ⟨cl6, Ar6, qa6, qs6, qn6, qh6, qg6⟩ := vq6
  have hin6 : ¬ ((1 : Int32) < 0 ∨ cl6.slots.size ≤ ((1 : Int32)).toNatClampNeg) := inb_of qs6 ⟨by decide, by decide⟩
  have hat6 : cl6.slots[((1 : Int32)).toNatClampNeg]? = some (.long (md).toInt64) := Has.at qh6 hin6 rfl
  refine Wp.back (U' := (T4.setTop (mkF m 35 #[.val (.ref ce), .val (.int p1), .val (.int 2), .val (.ref mp), .val (.int (p1 * (2 : Int32))), .val (.long ((f_ca f n (p1 * (2 : Int32))) * (1 : Int64))), .second] [(.long (md).toInt64), (.long (f_ca f n ((p1 * (2 : Int32)) + (1 : Int32)))), (.long ((f_ca f n (p1 * (2 : Int32))) * (1 : Int64)))]))) (fun t k => X4.laload hx (j := (1 : Int32)) (v := (.long (md).toInt64)) Ar6.1 (State.isArrayOf_alike hZ.alike Ar6.2.1) Ar6.2.2 hin6 hat6 (g := (mkF m 34 #[.val (.ref ce), .val (.int p1), .val (.int 2), .val (.ref mp), .val (.int (p1 * (2 : Int32))), .val (.long ((f_ca f n (p1 * (2 : Int32))) * (1 : Int64))), .second] [(.int 1), (.ref mp), (.long (f_ca f n ((p1 * (2 : Int32)) + (1 : Int32)))), (.long ((f_ca f n (p1 * (2 : Int32))) * (1 : Int64)))])) rfl rfl (hb hby d7_34) t k) ?_
  refine Wp.back (U' := (T4.setTop (mkF m 105 #[.val (.ref ce), .val (.int p1), .val (.int 2), .val (.ref mp), .val (.int (p1 * (2 : Int32))), .val (.long (((f_ca f n (p1 * (2 : Int32))) * (1 : Int64)) + ((f_ca f n ((p1 * (2 : Int32)) + (1 : Int32))) * (md).toInt64))), .second] []))) (fun t k => XS.lmul X4.here hx rfl (hb hby d7_35) rfl (XS.ladd X4.here hx rfl (hb hby d7_36) rfl (XS.lstore X4.here hx rfl (hb hby d7_37) rfl (l' := #[.val (.ref ce), .val (.int p1), .val (.int 2), .val (.ref mp), .val (.int (p1 * (2 : Int32))), .val (.long (((f_ca f n (p1 * (2 : Int32))) * (1 : Int64)) + ((f_ca f n ((p1 * (2 : Int32)) + (1 : Int32))) * (md).toInt64))), .second]) rfl (XS.iloadN X4.here hx rfl (hb hby d7_39) rfl (XT.iconstV X4.here hx rfl 2 (hb hby d7_40) (by decide) (XS.icmpYes X4.here hx rfl (pc0 := 41) (pc' := 61) rfl (hb hby d7_41) rfl (flt (by decide)).2.2.2 (by decide) (by decide) (XS.iloadN X4.here hx rfl (hb hby d7_61) rfl (XT.iconstV X4.here hx rfl 3 (hb hby d7_62) (by decide) (XS.icmpYes X4.here hx rfl (pc0 := 63) (pc' := 83) rfl (hb hby d7_63) rfl (flt (by decide)).2.2.2 (by decide) (by decide) (XS.iloadN X4.here hx rfl (hb hby d7_83) rfl (XT.iconstV X4.here hx rfl 4 (hb hby d7_84) (by decide) (XS.icmpYes X4.here hx rfl (pc0 := 85) (pc' := 105) rfl (hb hby d7_85) rfl (flt (by decide)).2.2.2 (by decide) (by decide) k)))))))))))) ?_
  refine Wp.back (U' := (T4.setTop (mkF m 107 #[.val (.ref ce), .val (.int p1), .val (.int 2), .val (.ref mp), .val (.int (p1 * (2 : Int32))), .val (.long (((f_ca f n (p1 * (2 : Int32))) * (1 : Int64)) + ((f_ca f n ((p1 * (2 : Int32)) + (1 : Int32))) * (md).toInt64))), .second] [(.long (((f_ca f n (p1 * (2 : Int32))) * (1 : Int64)) + ((f_ca f n ((p1 * (2 : Int32)) + (1 : Int32))) * (md).toInt64)))]))) (fun t k => XS.lload X4.here hx rfl (hb hby d7_105) rfl k) ?_
  obtain ⟨fs, hr, hrun, hended, hW, hsame⟩ := X4.leave (v := (some (.long (((f_ca f n (p1 * (2 : Int32))) * (1 : Int64)) + ((f_ca f n ((p1 * (2 : Int32)) + (1 : Int32))) * (md).toInt64))))) (fun h => by rw [hret] at h; cases h)
  refine Wp.done (retOut X4 hx hret rfl (Or.inr (Or.inl ⟨rfl, rfl, _, rfl⟩)) (hb hby d7_107) hr) hrun hended ⟨_, _, rfl, ?_, ⟨_, rfl⟩, hW, hsame.mono (by decide) (by decide)⟩
  show Q_bl2 Z ce p1 mp kc km n md f h0 n0 _ T4.heap _
  exact ⟨rfl, N4, f5_3⟩
def Q_bl3 (Z : State) (ce : Addr) (p1 : Int32) (mp : Addr) (kc : ClassId) (km : ClassId) (n : Int32) (md : Int32) (f : Int32 → Int32) (h0 : Heap) (n0 : Nat) (v : Option Value) (h : Heap) (L : List Loc) : Prop := v = some (.long ((((f_ca f n (p1 * (3 : Int32))) * (1 : Int64)) + ((f_ca f n ((p1 * (3 : Int32)) + (1 : Int32))) * (md).toInt64)) + ((f_ca f n ((p1 * (3 : Int32)) + (2 : Int32))) * ((md).toInt64 * (md).toInt64)))) ∧ Fr n0 L ∧ Keep h0 h []
theorem d7_44 : decode method_5_code 44 = .ok (.lload 5, 2) := by decide +kernel
theorem d7_46 : decode method_5_code 46 = .ok (.aload_n 0, 1) := by decide +kernel
theorem d7_47 : decode method_5_code 47 = .ok (.iload 4, 2) := by decide +kernel
theorem d7_49 : decode method_5_code 49 = .ok (.iconst 2, 1) := by decide +kernel
theorem d7_50 : decode method_5_code 50 = .ok (.iadd, 1) := by decide +kernel
theorem d7_51 : decode method_5_code 51 = .ok (.invokestatic 35, 3) := by decide +kernel
theorem d7_54 : decode method_5_code 54 = .ok (.aload_n 3, 1) := by decide +kernel
theorem d7_55 : decode method_5_code 55 = .ok (.iconst 2, 1) := by decide +kernel
theorem d7_56 : decode method_5_code 56 = .ok (.laload, 1) := by decide +kernel
theorem d7_57 : decode method_5_code 57 = .ok (.lmul, 1) := by decide +kernel
theorem d7_58 : decode method_5_code 58 = .ok (.ladd, 1) := by decide +kernel
theorem d7_59 : decode method_5_code 59 = .ok (.lstore 5, 2) := by decide +kernel
set_option maxRecDepth 65536 in
set_option maxHeartbeats 40000000 in
theorem rm_bl3 (l : Launch) (Z : State) (a0 : Array Value) (hw : ∀ d ∈ tables_1, d.before a0 Z = true) (ws : List Jvm.Cond) (ce : Addr) (p1 : Int32) (mp : Addr) (kc : ClassId) (km : ClassId) (n : Int32) (md : Int32) (f : Int32 → Int32) (h0 : Heap) (n0 : Nat) (Z0 : n0 ≤ h0.size) (H0 : Arv Z h0 ce kc .int n (own_C f) (.int 0)) (H1 : Arv Z h0 mp km .long (5 : Int32) [(.long (1 : Int64)), (.long (md).toInt64), (.long ((md).toInt64 * (md).toInt64)), (.long (((md).toInt64 * (md).toInt64) * (md).toInt64)), (.long ((((md).toInt64 * (md).toInt64) * (md).toInt64) * (md).toInt64))] (.long (0 : Int64))) (hq0 : ¬ (p1 * (3 : Int32)) < 0) (hq1 : ¬ ((p1 * (3 : Int32)) + (1 : Int32)) < 0) (hq2 : ¬ ((p1 * (3 : Int32)) + (2 : Int32)) < 0) (hn4 : ∀ x : Int32, x < n → x < 4) :
    Met l Z Y8 method_5_code 7 (some .long) ws ({ frames := 1, cells := 0, slots := 0, locals := 40 } : Room) #[(.ref ce), (.int p1), (.int 3), (.ref mp)] h0 (Q_bl3 Z ce p1 mp kc km n md f h0 n0) := by
  refine own_body (plainFor_of_name pn7) ?_
  intro p e s m below meth c s₁ hx hby hret hlk hml hZ hown hnm X0 e0
  have N0 := Fr.nil n0
  refine Wp.back (U' := (s₁.setTop (mkF m 0 #[.val (.ref ce), .val (.int p1), .val (.int 3), .val (.ref mp), .unset, .unset, .unset] []))) (fun t k => castTop (ef7_RIIR m ce p1 (3 : Int32) mp) k) ?_
  refine Wp.back (U' := (s₁.setTop (mkF m 8 #[.val (.ref ce), .val (.int p1), .val (.int 3), .val (.ref mp), .val (.int (p1 * (3 : Int32))), .unset, .unset] [(.int (p1 * (3 : Int32))), (.ref ce)]))) (fun t k => XS.iloadN X0.here hx rfl (hb hby d7_0) rfl (XS.iloadN X0.here hx rfl (hb hby d7_1) rfl (XS.imul X0.here hx rfl (hb hby d7_2) rfl (XS.istore X0.here hx rfl (hb hby d7_3) rfl (l' := #[.val (.ref ce), .val (.int p1), .val (.int 3), .val (.ref mp), .val (.int (p1 * (3 : Int32))), .unset, .unset]) rfl (XS.aloadN X0.here hx rfl (hb hby d7_5) rfl rfl (XS.iload X0.here hx rfl (hb hby d7_6) rfl k)))))) ?_
  obtain ⟨_, _, ⟨T1, L1, k1, n1⟩, -, X1, ⟨Lc1, hQ1, l1, y1, z1⟩, st1⟩ := Jvm.LawKit.callS X0 hx (y := Y7) hown (mvT hZ (ow hw 42 rfl)) (mvT hZ (ow hw 43 rfl)) (mvT hZ (ow hw 2 rfl)) (mvT hZ (ow hw 44 rfl)) (by decide) (backOf (W := 0) (rm_ca l Z a0 hw [] ce (p1 * (3 : Int32)) kc n f h0 n0 Z0 H0 hq0 hn4) hZ (ow hw 44 rfl) (ow hw 2 rfl) (by decide) (by decide)) (g := (mkF m 8 #[.val (.ref ce), .val (.int p1), .val (.int 3), .val (.ref mp), .val (.int (p1 * (3 : Int32))), .unset, .unset] [(.int (p1 * (3 : Int32))), (.ref ce)])) rfl (by rw [hml]; rfl) (argsL := [(.ref ce), (.int (p1 * (3 : Int32)))]) (rest := []) (lenOf pd_3 rfl) rfl (Nat.le_of_eq rfl) (hb hby d7_8) (fun _ _ => ⟨rfl, e0, (by decide : 0 + 0 ≤ _), (by decide : 0 + 0 ≤ _)⟩)
  dsimp only [Pt.U, Pt.locs, Pt.cells, Pt.slots] at X1 l1 y1 z1 st1 hQ1
  subst l1 y1 z1
  obtain ⟨rfl, N1q, K1⟩ := hQ1
  have f2_0 := Nat.le_trans Z0 K1.1
  have f2_1 := H0.keep K1 nin0
  have f2_2 := H1.keep K1 nin0
  have f2_3 := (Keep.refl h0 []).trans K1 all0
  have N1 := Fr.app N0 N1q
  refine Wp.back (U' := (T1.setTop (mkF m 11 #[.val (.ref ce), .val (.int p1), .val (.int 3), .val (.ref mp), .val (.int (p1 * (3 : Int32))), .unset, .unset] [(.long (f_ca f n (p1 * (3 : Int32))))]))) st1 ?_
  refine Wp.back (U' := (T1.setTop (mkF m 13 #[.val (.ref ce), .val (.int p1), .val (.int 3), .val (.ref mp), .val (.int (p1 * (3 : Int32))), .unset, .unset] [(.int 0), (.ref mp), (.long (f_ca f n (p1 * (3 : Int32))))]))) (fun t k => XS.aloadN X1.here hx rfl (hb hby d7_11) rfl rfl (XT.iconstV X1.here hx rfl 0 (hb hby d7_12) (by decide) k)) ?_
  have vq3 := f2_2
  obtain ⟨cl3, Ar3, qa3, qs3, qn3, qh3, qg3⟩ := vq3
  have hin3 : ¬ ((0 : Int32) < 0 ∨ cl3.slots.size ≤ ((0 : Int32)).toNatClampNeg) := inb_of qs3 ⟨by decide, by decide⟩
  have hat3 : cl3.slots[((0 : Int32)).toNatClampNeg]? = some (.long (1 : Int64)) := Has.at qh3 hin3 rfl
  refine Wp.back (U' := (T1.setTop (mkF m 14 #[.val (.ref ce), .val (.int p1), .val (.int 3), .val (.ref mp), .val (.int (p1 * (3 : Int32))), .unset, .unset] [(.long (1 : Int64)), (.long (f_ca f n (p1 * (3 : Int32))))]))) (fun t k => X1.laload hx (j := (0 : Int32)) (v := (.long (1 : Int64))) Ar3.1 (State.isArrayOf_alike hZ.alike Ar3.2.1) Ar3.2.2 hin3 hat3 (g := (mkF m 13 #[.val (.ref ce), .val (.int p1), .val (.int 3), .val (.ref mp), .val (.int (p1 * (3 : Int32))), .unset, .unset] [(.int 0), (.ref mp), (.long (f_ca f n (p1 * (3 : Int32))))])) rfl rfl (hb hby d7_13) t k) ?_
  refine Wp.back (U' := (T1.setTop (mkF m 29 #[.val (.ref ce), .val (.int p1), .val (.int 3), .val (.ref mp), .val (.int (p1 * (3 : Int32))), .val (.long ((f_ca f n (p1 * (3 : Int32))) * (1 : Int64))), .second] [(.int ((p1 * (3 : Int32)) + (1 : Int32))), (.ref ce), (.long ((f_ca f n (p1 * (3 : Int32))) * (1 : Int64)))]))) (fun t k => XS.lmul X1.here hx rfl (hb hby d7_14) rfl (XS.lstore X1.here hx rfl (hb hby d7_15) rfl (l' := #[.val (.ref ce), .val (.int p1), .val (.int 3), .val (.ref mp), .val (.int (p1 * (3 : Int32))), .val (.long ((f_ca f n (p1 * (3 : Int32))) * (1 : Int64))), .second]) rfl (XS.iloadN X1.here hx rfl (hb hby d7_17) rfl (XT.iconstV X1.here hx rfl 1 (hb hby d7_18) (by decide) (XS.icmpNo X1.here hx rfl (hb hby d7_19) rfl (tlt (by decide)).2.2.2 (XS.lload X1.here hx rfl (hb hby d7_22) rfl (XS.aloadN X1.here hx rfl (hb hby d7_24) rfl rfl (XS.iload X1.here hx rfl (hb hby d7_25) rfl (XT.iconstV X1.here hx rfl 1 (hb hby d7_27) (by decide) (XS.iadd X1.here hx rfl (hb hby d7_28) rfl k)))))))))) ?_
  obtain ⟨_, _, ⟨T4, L4, k4, n4⟩, -, X4, ⟨Lc4, hQ4, l4, y4, z4⟩, st4⟩ := Jvm.LawKit.callS X1 hx (y := Y7) hown (mvT hZ (ow hw 42 rfl)) (mvT hZ (ow hw 43 rfl)) (mvT hZ (ow hw 2 rfl)) (mvT hZ (ow hw 44 rfl)) (by decide) (backOf (W := 2) (rm_ca l Z a0 hw [] ce ((p1 * (3 : Int32)) + (1 : Int32)) kc n f T1.heap n0 f2_0 f2_1 hq1 hn4) hZ (ow hw 44 rfl) (ow hw 2 rfl) (by decide) (by decide)) (g := (mkF m 29 #[.val (.ref ce), .val (.int p1), .val (.int 3), .val (.ref mp), .val (.int (p1 * (3 : Int32))), .val (.long ((f_ca f n (p1 * (3 : Int32))) * (1 : Int64))), .second] [(.int ((p1 * (3 : Int32)) + (1 : Int32))), (.ref ce), (.long ((f_ca f n (p1 * (3 : Int32))) * (1 : Int64)))])) rfl (by rw [hml]; rfl) (argsL := [(.ref ce), (.int ((p1 * (3 : Int32)) + (1 : Int32)))]) (rest := [(.long ((f_ca f n (p1 * (3 : Int32))) * (1 : Int64)))]) (lenOf pd_3 rfl) rfl (Nat.le_of_eq rfl) (hb hby d7_29) (fun _ _ => ⟨rfl, rfl, (by decide : 0 + 0 ≤ _), (by decide : 0 + 0 ≤ _)⟩)
  dsimp only [Pt.U, Pt.locs, Pt.cells, Pt.slots] at X4 l4 y4 z4 st4 hQ4
  subst l4 y4 z4
  obtain ⟨rfl, N4q, K4⟩ := hQ4
  have f5_0 := Nat.le_trans f2_0 K4.1
  have f5_1 := f2_1.keep K4 nin0
  have f5_2 := f2_2.keep K4 nin0
  have f5_3 := f2_3.trans K4 all0
  have N4 := Fr.app N1 N4q
  refine Wp.back (U' := (T4.setTop (mkF m 32 #[.val (.ref ce), .val (.int p1), .val (.int 3), .val (.ref mp), .val (.int (p1 * (3 : Int32))), .val (.long ((f_ca f n (p1 * (3 : Int32))) * (1 : Int64))), .second] [(.long (f_ca f n ((p1 * (3 : Int32)) + (1 : Int32)))), (.long ((f_ca f n (p1 * (3 : Int32))) * (1 : Int64)))]))) st4 ?_
  refine Wp.back (U' := (T4.setTop (mkF m 34 #[.val (.ref ce), .val (.int p1), .val (.int 3), .val (.ref mp), .val (.int (p1 * (3 : Int32))), .val (.long ((f_ca f n (p1 * (3 : Int32))) * (1 : Int64))), .second] [(.int 1), (.ref mp), (.long (f_ca f n ((p1 * (3 : Int32)) + (1 : Int32)))), (.long ((f_ca f n (p1 * (3 : Int32))) * (1 : Int64)))]))) (fun t k => XS.aloadN X4.here hx rfl (hb hby d7_32) rfl rfl (XT.iconstV X4.here hx rfl 1 (hb hby d7_33) (by decide) k)) ?_
  have vq6 := f5_2
  obtain ⟨cl6, Ar6, qa6, qs6, qn6, qh6, qg6⟩ := vq6
  have hin6 : ¬ ((1 : Int32) < 0 ∨ cl6.slots.size ≤ ((1 : Int32)).toNatClampNeg) := inb_of qs6 ⟨by decide, by decide⟩
  have hat6 : cl6.slots[((1 : Int32)).toNatClampNeg]? = some (.long (md).toInt64) := Has.at qh6 hin6 rfl
  refine Wp.back (U' := (T4.setTop (mkF m 35 #[.val (.ref ce), .val (.int p1), .val (.int 3), .val (.ref mp), .val (.int (p1 * (3 : Int32))), .val (.long ((f_ca f n (p1 * (3 : Int32))) * (1 : Int64))), .second] [(.long (md).toInt64), (.long (f_ca f n ((p1 * (3 : Int32)) + (1 : Int32)))), (.long ((f_ca f n (p1 * (3 : Int32))) * (1 : Int64)))]))) (fun t k => X4.laload hx (j := (1 : Int32)) (v := (.long (md).toInt64)) Ar6.1 (State.isArrayOf_alike hZ.alike Ar6.2.1) Ar6.2.2 hin6 hat6 (g := (mkF m 34 #[.val (.ref ce), .val (.int p1), .val (.int 3), .val (.ref mp), .val (.int (p1 * (3 : Int32))), .val (.long ((f_ca f n (p1 * (3 : Int32))) * (1 : Int64))), .second] [(.int 1), (.ref mp), (.long (f_ca f n ((p1 * (3 : Int32)) + (1 : Int32)))), (.long ((f_ca f n (p1 * (3 : Int32))) * (1 : Int64)))])) rfl rfl (hb hby d7_34) t k) ?_
  refine Wp.back (U' := (T4.setTop (mkF m 51 #[.val (.ref ce), .val (.int p1), .val (.int 3), .val (.ref mp), .val (.int (p1 * (3 : Int32))), .val (.long (((f_ca f n (p1 * (3 : Int32))) * (1 : Int64)) + ((f_ca f n ((p1 * (3 : Int32)) + (1 : Int32))) * (md).toInt64))), .second] [(.int ((p1 * (3 : Int32)) + (2 : Int32))), (.ref ce), (.long (((f_ca f n (p1 * (3 : Int32))) * (1 : Int64)) + ((f_ca f n ((p1 * (3 : Int32)) + (1 : Int32))) * (md).toInt64)))]))) (fun t k => XS.lmul X4.here hx rfl (hb hby d7_35) rfl (XS.ladd X4.here hx rfl (hb hby d7_36) rfl (XS.lstore X4.here hx rfl (hb hby d7_37) rfl (l' := #[.val (.ref ce), .val (.int p1), .val (.int 3), .val (.ref mp), .val (.int (p1 * (3 : Int32))), .val (.long (((f_ca f n (p1 * (3 : Int32))) * (1 : Int64)) + ((f_ca f n ((p1 * (3 : Int32)) + (1 : Int32))) * (md).toInt64))), .second]) rfl (XS.iloadN X4.here hx rfl (hb hby d7_39) rfl (XT.iconstV X4.here hx rfl 2 (hb hby d7_40) (by decide) (XS.icmpNo X4.here hx rfl (hb hby d7_41) rfl (tlt (by decide)).2.2.2 (XS.lload X4.here hx rfl (hb hby d7_44) rfl (XS.aloadN X4.here hx rfl (hb hby d7_46) rfl rfl (XS.iload X4.here hx rfl (hb hby d7_47) rfl (XT.iconstV X4.here hx rfl 2 (hb hby d7_49) (by decide) (XS.iadd X4.here hx rfl (hb hby d7_50) rfl k))))))))))) ?_
  obtain ⟨_, _, ⟨T7, L7, k7, n7⟩, -, X7, ⟨Lc7, hQ7, l7, y7, z7⟩, st7⟩ := Jvm.LawKit.callS X4 hx (y := Y7) hown (mvT hZ (ow hw 42 rfl)) (mvT hZ (ow hw 43 rfl)) (mvT hZ (ow hw 2 rfl)) (mvT hZ (ow hw 44 rfl)) (by decide) (backOf (W := 2) (rm_ca l Z a0 hw [] ce ((p1 * (3 : Int32)) + (2 : Int32)) kc n f T4.heap n0 f5_0 f5_1 hq2 hn4) hZ (ow hw 44 rfl) (ow hw 2 rfl) (by decide) (by decide)) (g := (mkF m 51 #[.val (.ref ce), .val (.int p1), .val (.int 3), .val (.ref mp), .val (.int (p1 * (3 : Int32))), .val (.long (((f_ca f n (p1 * (3 : Int32))) * (1 : Int64)) + ((f_ca f n ((p1 * (3 : Int32)) + (1 : Int32))) * (md).toInt64))), .second] [(.int ((p1 * (3 : Int32)) + (2 : Int32))), (.ref ce), (.long (((f_ca f n (p1 * (3 : Int32))) * (1 : Int64)) + ((f_ca f n ((p1 * (3 : Int32)) + (1 : Int32))) * (md).toInt64)))])) rfl (by rw [hml]; rfl) (argsL := [(.ref ce), (.int ((p1 * (3 : Int32)) + (2 : Int32)))]) (rest := [(.long (((f_ca f n (p1 * (3 : Int32))) * (1 : Int64)) + ((f_ca f n ((p1 * (3 : Int32)) + (1 : Int32))) * (md).toInt64)))]) (lenOf pd_3 rfl) rfl (Nat.le_of_eq rfl) (hb hby d7_51) (fun _ _ => ⟨rfl, rfl, (by decide : 0 + 0 ≤ _), (by decide : 0 + 0 ≤ _)⟩)
  dsimp only [Pt.U, Pt.locs, Pt.cells, Pt.slots] at X7 l7 y7 z7 st7 hQ7
  subst l7 y7 z7
  obtain ⟨rfl, N7q, K7⟩ := hQ7
  have f8_0 := Nat.le_trans f5_0 K7.1
  have f8_1 := f5_1.keep K7 nin0
  have f8_2 := f5_2.keep K7 nin0
  have f8_3 := f5_3.trans K7 all0
  have N7 := Fr.app N4 N7q
  refine Wp.back (U' := (T7.setTop (mkF m 54 #[.val (.ref ce), .val (.int p1), .val (.int 3), .val (.ref mp), .val (.int (p1 * (3 : Int32))), .val (.long (((f_ca f n (p1 * (3 : Int32))) * (1 : Int64)) + ((f_ca f n ((p1 * (3 : Int32)) + (1 : Int32))) * (md).toInt64))), .second] [(.long (f_ca f n ((p1 * (3 : Int32)) + (2 : Int32)))), (.long (((f_ca f n (p1 * (3 : Int32))) * (1 : Int64)) + ((f_ca f n ((p1 * (3 : Int32)) + (1 : Int32))) * (md).toInt64)))]))) st7 ?_
  refine Wp.back (U' := (T7.setTop (mkF m 56 #[.val (.ref ce), .val (.int p1), .val (.int 3), .val (.ref mp), .val (.int (p1 * (3 : Int32))), .val (.long (((f_ca f n (p1 * (3 : Int32))) * (1 : Int64)) + ((f_ca f n ((p1 * (3 : Int32)) + (1 : Int32))) * (md).toInt64))), .second] [(.int 2), (.ref mp), (.long (f_ca f n ((p1 * (3 : Int32)) + (2 : Int32)))), (.long (((f_ca f n (p1 * (3 : Int32))) * (1 : Int64)) + ((f_ca f n ((p1 * (3 : Int32)) + (1 : Int32))) * (md).toInt64)))]))) (fun t k => XS.aloadN X7.here hx rfl (hb hby d7_54) rfl rfl (XT.iconstV X7.here hx rfl 2 (hb hby d7_55) (by decide) k)) ?_
  have vq9 := f8_2
  obtain ⟨cl9, Ar9, qa9, qs9, qn9, qh9, qg9⟩ := vq9
  have hin9 : ¬ ((2 : Int32) < 0 ∨ cl9.slots.size ≤ ((2 : Int32)).toNatClampNeg) := inb_of qs9 ⟨by decide, by decide⟩
  have hat9 : cl9.slots[((2 : Int32)).toNatClampNeg]? = some (.long ((md).toInt64 * (md).toInt64)) := Has.at qh9 hin9 rfl
  refine Wp.back (U' := (T7.setTop (mkF m 57 #[.val (.ref ce), .val (.int p1), .val (.int 3), .val (.ref mp), .val (.int (p1 * (3 : Int32))), .val (.long (((f_ca f n (p1 * (3 : Int32))) * (1 : Int64)) + ((f_ca f n ((p1 * (3 : Int32)) + (1 : Int32))) * (md).toInt64))), .second] [(.long ((md).toInt64 * (md).toInt64)), (.long (f_ca f n ((p1 * (3 : Int32)) + (2 : Int32)))), (.long (((f_ca f n (p1 * (3 : Int32))) * (1 : Int64)) + ((f_ca f n ((p1 * (3 : Int32)) + (1 : Int32))) * (md).toInt64)))]))) (fun t k => X7.laload hx (j := (2 : Int32)) (v := (.long ((md).toInt64 * (md).toInt64))) Ar9.1 (State.isArrayOf_alike hZ.alike Ar9.2.1) Ar9.2.2 hin9 hat9 (g := (mkF m 56 #[.val (.ref ce), .val (.int p1), .val (.int 3), .val (.ref mp), .val (.int (p1 * (3 : Int32))), .val (.long (((f_ca f n (p1 * (3 : Int32))) * (1 : Int64)) + ((f_ca f n ((p1 * (3 : Int32)) + (1 : Int32))) * (md).toInt64))), .second] [(.int 2), (.ref mp), (.long (f_ca f n ((p1 * (3 : Int32)) + (2 : Int32)))), (.long (((f_ca f n (p1 * (3 : Int32))) * (1 : Int64)) + ((f_ca f n ((p1 * (3 : Int32)) + (1 : Int32))) * (md).toInt64)))])) rfl rfl (hb hby d7_56) t k) ?_
  refine Wp.back (U' := (T7.setTop (mkF m 107 #[.val (.ref ce), .val (.int p1), .val (.int 3), .val (.ref mp), .val (.int (p1 * (3 : Int32))), .val (.long ((((f_ca f n (p1 * (3 : Int32))) * (1 : Int64)) + ((f_ca f n ((p1 * (3 : Int32)) + (1 : Int32))) * (md).toInt64)) + ((f_ca f n ((p1 * (3 : Int32)) + (2 : Int32))) * ((md).toInt64 * (md).toInt64)))), .second] [(.long ((((f_ca f n (p1 * (3 : Int32))) * (1 : Int64)) + ((f_ca f n ((p1 * (3 : Int32)) + (1 : Int32))) * (md).toInt64)) + ((f_ca f n ((p1 * (3 : Int32)) + (2 : Int32))) * ((md).toInt64 * (md).toInt64))))]))) (fun t k => XS.lmul X7.here hx rfl (hb hby d7_57) rfl (XS.ladd X7.here hx rfl (hb hby d7_58) rfl (XS.lstore X7.here hx rfl (hb hby d7_59) rfl (l' := #[.val (.ref ce), .val (.int p1), .val (.int 3), .val (.ref mp), .val (.int (p1 * (3 : Int32))), .val (.long ((((f_ca f n (p1 * (3 : Int32))) * (1 : Int64)) + ((f_ca f n ((p1 * (3 : Int32)) + (1 : Int32))) * (md).toInt64)) + ((f_ca f n ((p1 * (3 : Int32)) + (2 : Int32))) * ((md).toInt64 * (md).toInt64)))), .second]) rfl (XS.iloadN X7.here hx rfl (hb hby d7_61) rfl (XT.iconstV X7.here hx rfl 3 (hb hby d7_62) (by decide) (XS.icmpYes X7.here hx rfl (pc0 := 63) (pc' := 83) rfl (hb hby d7_63) rfl (flt (by decide)).2.2.2 (by decide) (by decide) (XS.iloadN X7.here hx rfl (hb hby d7_83) rfl (XT.iconstV X7.here hx rfl 4 (hb hby d7_84) (by decide) (XS.icmpYes X7.here hx rfl (pc0 := 85) (pc' := 105) rfl (hb hby d7_85) rfl (flt (by decide)).2.2.2 (by decide) (by decide) (XS.lload X7.here hx rfl (hb hby d7_105) rfl k)))))))))) ?_
  obtain ⟨fs, hr, hrun, hended, hW, hsame⟩ := X7.leave (v := (some (.long ((((f_ca f n (p1 * (3 : Int32))) * (1 : Int64)) + ((f_ca f n ((p1 * (3 : Int32)) + (1 : Int32))) * (md).toInt64)) + ((f_ca f n ((p1 * (3 : Int32)) + (2 : Int32))) * ((md).toInt64 * (md).toInt64)))))) (fun h => by rw [hret] at h; cases h)
  refine Wp.done (retOut X7 hx hret rfl (Or.inr (Or.inl ⟨rfl, rfl, _, rfl⟩)) (hb hby d7_107) hr) hrun hended ⟨_, _, rfl, ?_, ⟨_, rfl⟩, hW, hsame.mono (by decide) (by decide)⟩
  show Q_bl3 Z ce p1 mp kc km n md f h0 n0 _ T7.heap _
  exact ⟨rfl, N7, f8_3⟩
def Q_bl5 (Z : State) (ce : Addr) (p1 : Int32) (mp : Addr) (kc : ClassId) (km : ClassId) (n : Int32) (md : Int32) (f : Int32 → Int32) (h0 : Heap) (n0 : Nat) (v : Option Value) (h : Heap) (L : List Loc) : Prop := v = some (.long ((((((f_ca f n (p1 * (5 : Int32))) * (1 : Int64)) + ((f_ca f n ((p1 * (5 : Int32)) + (1 : Int32))) * (md).toInt64)) + ((f_ca f n ((p1 * (5 : Int32)) + (2 : Int32))) * ((md).toInt64 * (md).toInt64))) + ((f_ca f n ((p1 * (5 : Int32)) + (3 : Int32))) * (((md).toInt64 * (md).toInt64) * (md).toInt64))) + ((f_ca f n ((p1 * (5 : Int32)) + (4 : Int32))) * ((((md).toInt64 * (md).toInt64) * (md).toInt64) * (md).toInt64)))) ∧ Fr n0 L ∧ Keep h0 h []
theorem d7_66 : decode method_5_code 66 = .ok (.lload 5, 2) := by decide +kernel
theorem d7_68 : decode method_5_code 68 = .ok (.aload_n 0, 1) := by decide +kernel
theorem d7_69 : decode method_5_code 69 = .ok (.iload 4, 2) := by decide +kernel
theorem d7_71 : decode method_5_code 71 = .ok (.iconst 3, 1) := by decide +kernel
theorem d7_72 : decode method_5_code 72 = .ok (.iadd, 1) := by decide +kernel
theorem d7_73 : decode method_5_code 73 = .ok (.invokestatic 35, 3) := by decide +kernel
theorem d7_76 : decode method_5_code 76 = .ok (.aload_n 3, 1) := by decide +kernel
theorem d7_77 : decode method_5_code 77 = .ok (.iconst 3, 1) := by decide +kernel
theorem d7_78 : decode method_5_code 78 = .ok (.laload, 1) := by decide +kernel
theorem d7_79 : decode method_5_code 79 = .ok (.lmul, 1) := by decide +kernel
theorem d7_80 : decode method_5_code 80 = .ok (.ladd, 1) := by decide +kernel
theorem d7_81 : decode method_5_code 81 = .ok (.lstore 5, 2) := by decide +kernel
theorem d7_88 : decode method_5_code 88 = .ok (.lload 5, 2) := by decide +kernel
theorem d7_90 : decode method_5_code 90 = .ok (.aload_n 0, 1) := by decide +kernel
theorem d7_91 : decode method_5_code 91 = .ok (.iload 4, 2) := by decide +kernel
theorem d7_93 : decode method_5_code 93 = .ok (.iconst 4, 1) := by decide +kernel
theorem d7_94 : decode method_5_code 94 = .ok (.iadd, 1) := by decide +kernel
theorem d7_95 : decode method_5_code 95 = .ok (.invokestatic 35, 3) := by decide +kernel
theorem d7_98 : decode method_5_code 98 = .ok (.aload_n 3, 1) := by decide +kernel
theorem d7_99 : decode method_5_code 99 = .ok (.iconst 4, 1) := by decide +kernel
theorem d7_100 : decode method_5_code 100 = .ok (.laload, 1) := by decide +kernel
theorem d7_101 : decode method_5_code 101 = .ok (.lmul, 1) := by decide +kernel
theorem d7_102 : decode method_5_code 102 = .ok (.ladd, 1) := by decide +kernel
theorem d7_103 : decode method_5_code 103 = .ok (.lstore 5, 2) := by decide +kernel
set_option maxRecDepth 65536 in
set_option maxHeartbeats 40000000 in
theorem rm_bl5 (l : Launch) (Z : State) (a0 : Array Value) (hw : ∀ d ∈ tables_1, d.before a0 Z = true) (ws : List Jvm.Cond) (ce : Addr) (p1 : Int32) (mp : Addr) (kc : ClassId) (km : ClassId) (n : Int32) (md : Int32) (f : Int32 → Int32) (h0 : Heap) (n0 : Nat) (Z0 : n0 ≤ h0.size) (H0 : Arv Z h0 ce kc .int n (own_C f) (.int 0)) (H1 : Arv Z h0 mp km .long (5 : Int32) [(.long (1 : Int64)), (.long (md).toInt64), (.long ((md).toInt64 * (md).toInt64)), (.long (((md).toInt64 * (md).toInt64) * (md).toInt64)), (.long ((((md).toInt64 * (md).toInt64) * (md).toInt64) * (md).toInt64))] (.long (0 : Int64))) (hq0 : ¬ (p1 * (5 : Int32)) < 0) (hq1 : ¬ ((p1 * (5 : Int32)) + (1 : Int32)) < 0) (hq2 : ¬ ((p1 * (5 : Int32)) + (2 : Int32)) < 0) (hq3 : ¬ ((p1 * (5 : Int32)) + (3 : Int32)) < 0) (hq4 : ¬ ((p1 * (5 : Int32)) + (4 : Int32)) < 0) (hn4 : ∀ x : Int32, x < n → x < 4) :
    Met l Z Y8 method_5_code 7 (some .long) ws ({ frames := 1, cells := 0, slots := 0, locals := 40 } : Room) #[(.ref ce), (.int p1), (.int 5), (.ref mp)] h0 (Q_bl5 Z ce p1 mp kc km n md f h0 n0) := by
  refine own_body (plainFor_of_name pn7) ?_
  intro p e s m below meth c s₁ hx hby hret hlk hml hZ hown hnm X0 e0
  have N0 := Fr.nil n0
  refine Wp.back (U' := (s₁.setTop (mkF m 0 #[.val (.ref ce), .val (.int p1), .val (.int 5), .val (.ref mp), .unset, .unset, .unset] []))) (fun t k => castTop (ef7_RIIR m ce p1 (5 : Int32) mp) k) ?_
  refine Wp.back (U' := (s₁.setTop (mkF m 8 #[.val (.ref ce), .val (.int p1), .val (.int 5), .val (.ref mp), .val (.int (p1 * (5 : Int32))), .unset, .unset] [(.int (p1 * (5 : Int32))), (.ref ce)]))) (fun t k => XS.iloadN X0.here hx rfl (hb hby d7_0) rfl (XS.iloadN X0.here hx rfl (hb hby d7_1) rfl (XS.imul X0.here hx rfl (hb hby d7_2) rfl (XS.istore X0.here hx rfl (hb hby d7_3) rfl (l' := #[.val (.ref ce), .val (.int p1), .val (.int 5), .val (.ref mp), .val (.int (p1 * (5 : Int32))), .unset, .unset]) rfl (XS.aloadN X0.here hx rfl (hb hby d7_5) rfl rfl (XS.iload X0.here hx rfl (hb hby d7_6) rfl k)))))) ?_
  obtain ⟨_, _, ⟨T1, L1, k1, n1⟩, -, X1, ⟨Lc1, hQ1, l1, y1, z1⟩, st1⟩ := Jvm.LawKit.callS X0 hx (y := Y7) hown (mvT hZ (ow hw 42 rfl)) (mvT hZ (ow hw 43 rfl)) (mvT hZ (ow hw 2 rfl)) (mvT hZ (ow hw 44 rfl)) (by decide) (backOf (W := 0) (rm_ca l Z a0 hw [] ce (p1 * (5 : Int32)) kc n f h0 n0 Z0 H0 hq0 hn4) hZ (ow hw 44 rfl) (ow hw 2 rfl) (by decide) (by decide)) (g := (mkF m 8 #[.val (.ref ce), .val (.int p1), .val (.int 5), .val (.ref mp), .val (.int (p1 * (5 : Int32))), .unset, .unset] [(.int (p1 * (5 : Int32))), (.ref ce)])) rfl (by rw [hml]; rfl) (argsL := [(.ref ce), (.int (p1 * (5 : Int32)))]) (rest := []) (lenOf pd_3 rfl) rfl (Nat.le_of_eq rfl) (hb hby d7_8) (fun _ _ => ⟨rfl, e0, (by decide : 0 + 0 ≤ _), (by decide : 0 + 0 ≤ _)⟩)
  dsimp only [Pt.U, Pt.locs, Pt.cells, Pt.slots] at X1 l1 y1 z1 st1 hQ1
  subst l1 y1 z1
  obtain ⟨rfl, N1q, K1⟩ := hQ1
  have f2_0 := Nat.le_trans Z0 K1.1
  have f2_1 := H0.keep K1 nin0
  have f2_2 := H1.keep K1 nin0
  have f2_3 := (Keep.refl h0 []).trans K1 all0
  have N1 := Fr.app N0 N1q
  refine Wp.back (U' := (T1.setTop (mkF m 11 #[.val (.ref ce), .val (.int p1), .val (.int 5), .val (.ref mp), .val (.int (p1 * (5 : Int32))), .unset, .unset] [(.long (f_ca f n (p1 * (5 : Int32))))]))) st1 ?_
  refine Wp.back (U' := (T1.setTop (mkF m 13 #[.val (.ref ce), .val (.int p1), .val (.int 5), .val (.ref mp), .val (.int (p1 * (5 : Int32))), .unset, .unset] [(.int 0), (.ref mp), (.long (f_ca f n (p1 * (5 : Int32))))]))) (fun t k => XS.aloadN X1.here hx rfl (hb hby d7_11) rfl rfl (XT.iconstV X1.here hx rfl 0 (hb hby d7_12) (by decide) k)) ?_
  have vq3 := f2_2
  obtain ⟨cl3, Ar3, qa3, qs3, qn3, qh3, qg3⟩ := vq3
  have hin3 : ¬ ((0 : Int32) < 0 ∨ cl3.slots.size ≤ ((0 : Int32)).toNatClampNeg) := inb_of qs3 ⟨by decide, by decide⟩
  have hat3 : cl3.slots[((0 : Int32)).toNatClampNeg]? = some (.long (1 : Int64)) := Has.at qh3 hin3 rfl
  refine Wp.back (U' := (T1.setTop (mkF m 14 #[.val (.ref ce), .val (.int p1), .val (.int 5), .val (.ref mp), .val (.int (p1 * (5 : Int32))), .unset, .unset] [(.long (1 : Int64)), (.long (f_ca f n (p1 * (5 : Int32))))]))) (fun t k => X1.laload hx (j := (0 : Int32)) (v := (.long (1 : Int64))) Ar3.1 (State.isArrayOf_alike hZ.alike Ar3.2.1) Ar3.2.2 hin3 hat3 (g := (mkF m 13 #[.val (.ref ce), .val (.int p1), .val (.int 5), .val (.ref mp), .val (.int (p1 * (5 : Int32))), .unset, .unset] [(.int 0), (.ref mp), (.long (f_ca f n (p1 * (5 : Int32))))])) rfl rfl (hb hby d7_13) t k) ?_
  refine Wp.back (U' := (T1.setTop (mkF m 29 #[.val (.ref ce), .val (.int p1), .val (.int 5), .val (.ref mp), .val (.int (p1 * (5 : Int32))), .val (.long ((f_ca f n (p1 * (5 : Int32))) * (1 : Int64))), .second] [(.int ((p1 * (5 : Int32)) + (1 : Int32))), (.ref ce), (.long ((f_ca f n (p1 * (5 : Int32))) * (1 : Int64)))]))) (fun t k => XS.lmul X1.here hx rfl (hb hby d7_14) rfl (XS.lstore X1.here hx rfl (hb hby d7_15) rfl (l' := #[.val (.ref ce), .val (.int p1), .val (.int 5), .val (.ref mp), .val (.int (p1 * (5 : Int32))), .val (.long ((f_ca f n (p1 * (5 : Int32))) * (1 : Int64))), .second]) rfl (XS.iloadN X1.here hx rfl (hb hby d7_17) rfl (XT.iconstV X1.here hx rfl 1 (hb hby d7_18) (by decide) (XS.icmpNo X1.here hx rfl (hb hby d7_19) rfl (tlt (by decide)).2.2.2 (XS.lload X1.here hx rfl (hb hby d7_22) rfl (XS.aloadN X1.here hx rfl (hb hby d7_24) rfl rfl (XS.iload X1.here hx rfl (hb hby d7_25) rfl (XT.iconstV X1.here hx rfl 1 (hb hby d7_27) (by decide) (XS.iadd X1.here hx rfl (hb hby d7_28) rfl k)))))))))) ?_
  obtain ⟨_, _, ⟨T4, L4, k4, n4⟩, -, X4, ⟨Lc4, hQ4, l4, y4, z4⟩, st4⟩ := Jvm.LawKit.callS X1 hx (y := Y7) hown (mvT hZ (ow hw 42 rfl)) (mvT hZ (ow hw 43 rfl)) (mvT hZ (ow hw 2 rfl)) (mvT hZ (ow hw 44 rfl)) (by decide) (backOf (W := 2) (rm_ca l Z a0 hw [] ce ((p1 * (5 : Int32)) + (1 : Int32)) kc n f T1.heap n0 f2_0 f2_1 hq1 hn4) hZ (ow hw 44 rfl) (ow hw 2 rfl) (by decide) (by decide)) (g := (mkF m 29 #[.val (.ref ce), .val (.int p1), .val (.int 5), .val (.ref mp), .val (.int (p1 * (5 : Int32))), .val (.long ((f_ca f n (p1 * (5 : Int32))) * (1 : Int64))), .second] [(.int ((p1 * (5 : Int32)) + (1 : Int32))), (.ref ce), (.long ((f_ca f n (p1 * (5 : Int32))) * (1 : Int64)))])) rfl (by rw [hml]; rfl) (argsL := [(.ref ce), (.int ((p1 * (5 : Int32)) + (1 : Int32)))]) (rest := [(.long ((f_ca f n (p1 * (5 : Int32))) * (1 : Int64)))]) (lenOf pd_3 rfl) rfl (Nat.le_of_eq rfl) (hb hby d7_29) (fun _ _ => ⟨rfl, rfl, (by decide : 0 + 0 ≤ _), (by decide : 0 + 0 ≤ _)⟩)
  dsimp only [Pt.U, Pt.locs, Pt.cells, Pt.slots] at X4 l4 y4 z4 st4 hQ4
  subst l4 y4 z4
  obtain ⟨rfl, N4q, K4⟩ := hQ4
  have f5_0 := Nat.le_trans f2_0 K4.1
  have f5_1 := f2_1.keep K4 nin0
  have f5_2 := f2_2.keep K4 nin0
  have f5_3 := f2_3.trans K4 all0
  have N4 := Fr.app N1 N4q
  refine Wp.back (U' := (T4.setTop (mkF m 32 #[.val (.ref ce), .val (.int p1), .val (.int 5), .val (.ref mp), .val (.int (p1 * (5 : Int32))), .val (.long ((f_ca f n (p1 * (5 : Int32))) * (1 : Int64))), .second] [(.long (f_ca f n ((p1 * (5 : Int32)) + (1 : Int32)))), (.long ((f_ca f n (p1 * (5 : Int32))) * (1 : Int64)))]))) st4 ?_
  refine Wp.back (U' := (T4.setTop (mkF m 34 #[.val (.ref ce), .val (.int p1), .val (.int 5), .val (.ref mp), .val (.int (p1 * (5 : Int32))), .val (.long ((f_ca f n (p1 * (5 : Int32))) * (1 : Int64))), .second] [(.int 1), (.ref mp), (.long (f_ca f n ((p1 * (5 : Int32)) + (1 : Int32)))), (.long ((f_ca f n (p1 * (5 : Int32))) * (1 : Int64)))]))) (fun t k => XS.aloadN X4.here hx rfl (hb hby d7_32) rfl rfl (XT.iconstV X4.here hx rfl 1 (hb hby d7_33) (by decide) k)) ?_
  have vq6 := f5_2
  obtain ⟨cl6, Ar6, qa6, qs6, qn6, qh6, qg6⟩ := vq6
  have hin6 : ¬ ((1 : Int32) < 0 ∨ cl6.slots.size ≤ ((1 : Int32)).toNatClampNeg) := inb_of qs6 ⟨by decide, by decide⟩
  have hat6 : cl6.slots[((1 : Int32)).toNatClampNeg]? = some (.long (md).toInt64) := Has.at qh6 hin6 rfl
  refine Wp.back (U' := (T4.setTop (mkF m 35 #[.val (.ref ce), .val (.int p1), .val (.int 5), .val (.ref mp), .val (.int (p1 * (5 : Int32))), .val (.long ((f_ca f n (p1 * (5 : Int32))) * (1 : Int64))), .second] [(.long (md).toInt64), (.long (f_ca f n ((p1 * (5 : Int32)) + (1 : Int32)))), (.long ((f_ca f n (p1 * (5 : Int32))) * (1 : Int64)))]))) (fun t k => X4.laload hx (j := (1 : Int32)) (v := (.long (md).toInt64)) Ar6.1 (State.isArrayOf_alike hZ.alike Ar6.2.1) Ar6.2.2 hin6 hat6 (g := (mkF m 34 #[.val (.ref ce), .val (.int p1), .val (.int 5), .val (.ref mp), .val (.int (p1 * (5 : Int32))), .val (.long ((f_ca f n (p1 * (5 : Int32))) * (1 : Int64))), .second] [(.int 1), (.ref mp), (.long (f_ca f n ((p1 * (5 : Int32)) + (1 : Int32)))), (.long ((f_ca f n (p1 * (5 : Int32))) * (1 : Int64)))])) rfl rfl (hb hby d7_34) t k) ?_
  refine Wp.back (U' := (T4.setTop (mkF m 51 #[.val (.ref ce), .val (.int p1), .val (.int 5), .val (.ref mp), .val (.int (p1 * (5 : Int32))), .val (.long (((f_ca f n (p1 * (5 : Int32))) * (1 : Int64)) + ((f_ca f n ((p1 * (5 : Int32)) + (1 : Int32))) * (md).toInt64))), .second] [(.int ((p1 * (5 : Int32)) + (2 : Int32))), (.ref ce), (.long (((f_ca f n (p1 * (5 : Int32))) * (1 : Int64)) + ((f_ca f n ((p1 * (5 : Int32)) + (1 : Int32))) * (md).toInt64)))]))) (fun t k => XS.lmul X4.here hx rfl (hb hby d7_35) rfl (XS.ladd X4.here hx rfl (hb hby d7_36) rfl (XS.lstore X4.here hx rfl (hb hby d7_37) rfl (l' := #[.val (.ref ce), .val (.int p1), .val (.int 5), .val (.ref mp), .val (.int (p1 * (5 : Int32))), .val (.long (((f_ca f n (p1 * (5 : Int32))) * (1 : Int64)) + ((f_ca f n ((p1 * (5 : Int32)) + (1 : Int32))) * (md).toInt64))), .second]) rfl (XS.iloadN X4.here hx rfl (hb hby d7_39) rfl (XT.iconstV X4.here hx rfl 2 (hb hby d7_40) (by decide) (XS.icmpNo X4.here hx rfl (hb hby d7_41) rfl (tlt (by decide)).2.2.2 (XS.lload X4.here hx rfl (hb hby d7_44) rfl (XS.aloadN X4.here hx rfl (hb hby d7_46) rfl rfl (XS.iload X4.here hx rfl (hb hby d7_47) rfl (XT.iconstV X4.here hx rfl 2 (hb hby d7_49) (by decide) (XS.iadd X4.here hx rfl (hb hby d7_50) rfl k))))))))))) ?_
  obtain ⟨_, _, ⟨T7, L7, k7, n7⟩, -, X7, ⟨Lc7, hQ7, l7, y7, z7⟩, st7⟩ := Jvm.LawKit.callS X4 hx (y := Y7) hown (mvT hZ (ow hw 42 rfl)) (mvT hZ (ow hw 43 rfl)) (mvT hZ (ow hw 2 rfl)) (mvT hZ (ow hw 44 rfl)) (by decide) (backOf (W := 2) (rm_ca l Z a0 hw [] ce ((p1 * (5 : Int32)) + (2 : Int32)) kc n f T4.heap n0 f5_0 f5_1 hq2 hn4) hZ (ow hw 44 rfl) (ow hw 2 rfl) (by decide) (by decide)) (g := (mkF m 51 #[.val (.ref ce), .val (.int p1), .val (.int 5), .val (.ref mp), .val (.int (p1 * (5 : Int32))), .val (.long (((f_ca f n (p1 * (5 : Int32))) * (1 : Int64)) + ((f_ca f n ((p1 * (5 : Int32)) + (1 : Int32))) * (md).toInt64))), .second] [(.int ((p1 * (5 : Int32)) + (2 : Int32))), (.ref ce), (.long (((f_ca f n (p1 * (5 : Int32))) * (1 : Int64)) + ((f_ca f n ((p1 * (5 : Int32)) + (1 : Int32))) * (md).toInt64)))])) rfl (by rw [hml]; rfl) (argsL := [(.ref ce), (.int ((p1 * (5 : Int32)) + (2 : Int32)))]) (rest := [(.long (((f_ca f n (p1 * (5 : Int32))) * (1 : Int64)) + ((f_ca f n ((p1 * (5 : Int32)) + (1 : Int32))) * (md).toInt64)))]) (lenOf pd_3 rfl) rfl (Nat.le_of_eq rfl) (hb hby d7_51) (fun _ _ => ⟨rfl, rfl, (by decide : 0 + 0 ≤ _), (by decide : 0 + 0 ≤ _)⟩)
  dsimp only [Pt.U, Pt.locs, Pt.cells, Pt.slots] at X7 l7 y7 z7 st7 hQ7
  subst l7 y7 z7
  obtain ⟨rfl, N7q, K7⟩ := hQ7
  have f8_0 := Nat.le_trans f5_0 K7.1
  have f8_1 := f5_1.keep K7 nin0
  have f8_2 := f5_2.keep K7 nin0
  have f8_3 := f5_3.trans K7 all0
  have N7 := Fr.app N4 N7q
  refine Wp.back (U' := (T7.setTop (mkF m 54 #[.val (.ref ce), .val (.int p1), .val (.int 5), .val (.ref mp), .val (.int (p1 * (5 : Int32))), .val (.long (((f_ca f n (p1 * (5 : Int32))) * (1 : Int64)) + ((f_ca f n ((p1 * (5 : Int32)) + (1 : Int32))) * (md).toInt64))), .second] [(.long (f_ca f n ((p1 * (5 : Int32)) + (2 : Int32)))), (.long (((f_ca f n (p1 * (5 : Int32))) * (1 : Int64)) + ((f_ca f n ((p1 * (5 : Int32)) + (1 : Int32))) * (md).toInt64)))]))) st7 ?_
  refine Wp.back (U' := (T7.setTop (mkF m 56 #[.val (.ref ce), .val (.int p1), .val (.int 5), .val (.ref mp), .val (.int (p1 * (5 : Int32))), .val (.long (((f_ca f n (p1 * (5 : Int32))) * (1 : Int64)) + ((f_ca f n ((p1 * (5 : Int32)) + (1 : Int32))) * (md).toInt64))), .second] [(.int 2), (.ref mp), (.long (f_ca f n ((p1 * (5 : Int32)) + (2 : Int32)))), (.long (((f_ca f n (p1 * (5 : Int32))) * (1 : Int64)) + ((f_ca f n ((p1 * (5 : Int32)) + (1 : Int32))) * (md).toInt64)))]))) (fun t k => XS.aloadN X7.here hx rfl (hb hby d7_54) rfl rfl (XT.iconstV X7.here hx rfl 2 (hb hby d7_55) (by decide) k)) ?_
  have vq9 := f8_2
  obtain ⟨cl9, Ar9, qa9, qs9, qn9, qh9, qg9⟩ := vq9
  have hin9 : ¬ ((2 : Int32) < 0 ∨ cl9.slots.size ≤ ((2 : Int32)).toNatClampNeg) := inb_of qs9 ⟨by decide, by decide⟩
  have hat9 : cl9.slots[((2 : Int32)).toNatClampNeg]? = some (.long ((md).toInt64 * (md).toInt64)) := Has.at qh9 hin9 rfl
  refine Wp.back (U' := (T7.setTop (mkF m 57 #[.val (.ref ce), .val (.int p1), .val (.int 5), .val (.ref mp), .val (.int (p1 * (5 : Int32))), .val (.long (((f_ca f n (p1 * (5 : Int32))) * (1 : Int64)) + ((f_ca f n ((p1 * (5 : Int32)) + (1 : Int32))) * (md).toInt64))), .second] [(.long ((md).toInt64 * (md).toInt64)), (.long (f_ca f n ((p1 * (5 : Int32)) + (2 : Int32)))), (.long (((f_ca f n (p1 * (5 : Int32))) * (1 : Int64)) + ((f_ca f n ((p1 * (5 : Int32)) + (1 : Int32))) * (md).toInt64)))]))) (fun t k => X7.laload hx (j := (2 : Int32)) (v := (.long ((md).toInt64 * (md).toInt64))) Ar9.1 (State.isArrayOf_alike hZ.alike Ar9.2.1) Ar9.2.2 hin9 hat9 (g := (mkF m 56 #[.val (.ref ce), .val (.int p1), .val (.int 5), .val (.ref mp), .val (.int (p1 * (5 : Int32))), .val (.long (((f_ca f n (p1 * (5 : Int32))) * (1 : Int64)) + ((f_ca f n ((p1 * (5 : Int32)) + (1 : Int32))) * (md).toInt64))), .second] [(.int 2), (.ref mp), (.long (f_ca f n ((p1 * (5 : Int32)) + (2 : Int32)))), (.long (((f_ca f n (p1 * (5 : Int32))) * (1 : Int64)) + ((f_ca f n ((p1 * (5 : Int32)) + (1 : Int32))) * (md).toInt64)))])) rfl rfl (hb hby d7_56) t k) ?_
  refine Wp.back (U' := (T7.setTop (mkF m 73 #[.val (.ref ce), .val (.int p1), .val (.int 5), .val (.ref mp), .val (.int (p1 * (5 : Int32))), .val (.long ((((f_ca f n (p1 * (5 : Int32))) * (1 : Int64)) + ((f_ca f n ((p1 * (5 : Int32)) + (1 : Int32))) * (md).toInt64)) + ((f_ca f n ((p1 * (5 : Int32)) + (2 : Int32))) * ((md).toInt64 * (md).toInt64)))), .second] [(.int ((p1 * (5 : Int32)) + (3 : Int32))), (.ref ce), (.long ((((f_ca f n (p1 * (5 : Int32))) * (1 : Int64)) + ((f_ca f n ((p1 * (5 : Int32)) + (1 : Int32))) * (md).toInt64)) + ((f_ca f n ((p1 * (5 : Int32)) + (2 : Int32))) * ((md).toInt64 * (md).toInt64))))]))) (fun t k => XS.lmul X7.here hx rfl (hb hby d7_57) rfl (XS.ladd X7.here hx rfl (hb hby d7_58) rfl (XS.lstore X7.here hx rfl (hb hby d7_59) rfl (l' := #[.val (.ref ce), .val (.int p1), .val (.int 5), .val (.ref mp), .val (.int (p1 * (5 : Int32))), .val (.long ((((f_ca f n (p1 * (5 : Int32))) * (1 : Int64)) + ((f_ca f n ((p1 * (5 : Int32)) + (1 : Int32))) * (md).toInt64)) + ((f_ca f n ((p1 * (5 : Int32)) + (2 : Int32))) * ((md).toInt64 * (md).toInt64)))), .second]) rfl (XS.iloadN X7.here hx rfl (hb hby d7_61) rfl (XT.iconstV X7.here hx rfl 3 (hb hby d7_62) (by decide) (XS.icmpNo X7.here hx rfl (hb hby d7_63) rfl (tlt (by decide)).2.2.2 (XS.lload X7.here hx rfl (hb hby d7_66) rfl (XS.aloadN X7.here hx rfl (hb hby d7_68) rfl rfl (XS.iload X7.here hx rfl (hb hby d7_69) rfl (XT.iconstV X7.here hx rfl 3 (hb hby d7_71) (by decide) (XS.iadd X7.here hx rfl (hb hby d7_72) rfl k))))))))))) ?_
  obtain ⟨_, _, ⟨T10, L10, k10, n10⟩, -, X10, ⟨Lc10, hQ10, l10, y10, z10⟩, st10⟩ := Jvm.LawKit.callS X7 hx (y := Y7) hown (mvT hZ (ow hw 42 rfl)) (mvT hZ (ow hw 43 rfl)) (mvT hZ (ow hw 2 rfl)) (mvT hZ (ow hw 44 rfl)) (by decide) (backOf (W := 2) (rm_ca l Z a0 hw [] ce ((p1 * (5 : Int32)) + (3 : Int32)) kc n f T7.heap n0 f8_0 f8_1 hq3 hn4) hZ (ow hw 44 rfl) (ow hw 2 rfl) (by decide) (by decide)) (g := (mkF m 73 #[.val (.ref ce), .val (.int p1), .val (.int 5), .val (.ref mp), .val (.int (p1 * (5 : Int32))), .val (.long ((((f_ca f n (p1 * (5 : Int32))) * (1 : Int64)) + ((f_ca f n ((p1 * (5 : Int32)) + (1 : Int32))) * (md).toInt64)) + ((f_ca f n ((p1 * (5 : Int32)) + (2 : Int32))) * ((md).toInt64 * (md).toInt64)))), .second] [(.int ((p1 * (5 : Int32)) + (3 : Int32))), (.ref ce), (.long ((((f_ca f n (p1 * (5 : Int32))) * (1 : Int64)) + ((f_ca f n ((p1 * (5 : Int32)) + (1 : Int32))) * (md).toInt64)) + ((f_ca f n ((p1 * (5 : Int32)) + (2 : Int32))) * ((md).toInt64 * (md).toInt64))))])) rfl (by rw [hml]; rfl) (argsL := [(.ref ce), (.int ((p1 * (5 : Int32)) + (3 : Int32)))]) (rest := [(.long ((((f_ca f n (p1 * (5 : Int32))) * (1 : Int64)) + ((f_ca f n ((p1 * (5 : Int32)) + (1 : Int32))) * (md).toInt64)) + ((f_ca f n ((p1 * (5 : Int32)) + (2 : Int32))) * ((md).toInt64 * (md).toInt64))))]) (lenOf pd_3 rfl) rfl (Nat.le_of_eq rfl) (hb hby d7_73) (fun _ _ => ⟨rfl, rfl, (by decide : 0 + 0 ≤ _), (by decide : 0 + 0 ≤ _)⟩)
  dsimp only [Pt.U, Pt.locs, Pt.cells, Pt.slots] at X10 l10 y10 z10 st10 hQ10
  subst l10 y10 z10
  obtain ⟨rfl, N10q, K10⟩ := hQ10
  have f11_0 := Nat.le_trans f8_0 K10.1
  have f11_1 := f8_1.keep K10 nin0
  have f11_2 := f8_2.keep K10 nin0
  have f11_3 := f8_3.trans K10 all0
  have N10 := Fr.app N7 N10q
  refine Wp.back (U' := (T10.setTop (mkF m 76 #[.val (.ref ce), .val (.int p1), .val (.int 5), .val (.ref mp), .val (.int (p1 * (5 : Int32))), .val (.long ((((f_ca f n (p1 * (5 : Int32))) * (1 : Int64)) + ((f_ca f n ((p1 * (5 : Int32)) + (1 : Int32))) * (md).toInt64)) + ((f_ca f n ((p1 * (5 : Int32)) + (2 : Int32))) * ((md).toInt64 * (md).toInt64)))), .second] [(.long (f_ca f n ((p1 * (5 : Int32)) + (3 : Int32)))), (.long ((((f_ca f n (p1 * (5 : Int32))) * (1 : Int64)) + ((f_ca f n ((p1 * (5 : Int32)) + (1 : Int32))) * (md).toInt64)) + ((f_ca f n ((p1 * (5 : Int32)) + (2 : Int32))) * ((md).toInt64 * (md).toInt64))))]))) st10 ?_
  refine Wp.back (U' := (T10.setTop (mkF m 78 #[.val (.ref ce), .val (.int p1), .val (.int 5), .val (.ref mp), .val (.int (p1 * (5 : Int32))), .val (.long ((((f_ca f n (p1 * (5 : Int32))) * (1 : Int64)) + ((f_ca f n ((p1 * (5 : Int32)) + (1 : Int32))) * (md).toInt64)) + ((f_ca f n ((p1 * (5 : Int32)) + (2 : Int32))) * ((md).toInt64 * (md).toInt64)))), .second] [(.int 3), (.ref mp), (.long (f_ca f n ((p1 * (5 : Int32)) + (3 : Int32)))), (.long ((((f_ca f n (p1 * (5 : Int32))) * (1 : Int64)) + ((f_ca f n ((p1 * (5 : Int32)) + (1 : Int32))) * (md).toInt64)) + ((f_ca f n ((p1 * (5 : Int32)) + (2 : Int32))) * ((md).toInt64 * (md).toInt64))))]))) (fun t k => XS.aloadN X10.here hx rfl (hb hby d7_76) rfl rfl (XT.iconstV X10.here hx rfl 3 (hb hby d7_77) (by decide) k)) ?_
  have vq12 := f11_2
  obtain ⟨cl12, Ar12, qa12, qs12, qn12, qh12, qg12⟩ := vq12
  have hin12 : ¬ ((3 : Int32) < 0 ∨ cl12.slots.size ≤ ((3 : Int32)).toNatClampNeg) := inb_of qs12 ⟨by decide, by decide⟩
  have hat12 : cl12.slots[((3 : Int32)).toNatClampNeg]? = some (.long (((md).toInt64 * (md).toInt64) * (md).toInt64)) := Has.at qh12 hin12 rfl
  refine Wp.back (U' := (T10.setTop (mkF m 79 #[.val (.ref ce), .val (.int p1), .val (.int 5), .val (.ref mp), .val (.int (p1 * (5 : Int32))), .val (.long ((((f_ca f n (p1 * (5 : Int32))) * (1 : Int64)) + ((f_ca f n ((p1 * (5 : Int32)) + (1 : Int32))) * (md).toInt64)) + ((f_ca f n ((p1 * (5 : Int32)) + (2 : Int32))) * ((md).toInt64 * (md).toInt64)))), .second] [(.long (((md).toInt64 * (md).toInt64) * (md).toInt64)), (.long (f_ca f n ((p1 * (5 : Int32)) + (3 : Int32)))), (.long ((((f_ca f n (p1 * (5 : Int32))) * (1 : Int64)) + ((f_ca f n ((p1 * (5 : Int32)) + (1 : Int32))) * (md).toInt64)) + ((f_ca f n ((p1 * (5 : Int32)) + (2 : Int32))) * ((md).toInt64 * (md).toInt64))))]))) (fun t k => X10.laload hx (j := (3 : Int32)) (v := (.long (((md).toInt64 * (md).toInt64) * (md).toInt64))) Ar12.1 (State.isArrayOf_alike hZ.alike Ar12.2.1) Ar12.2.2 hin12 hat12 (g := (mkF m 78 #[.val (.ref ce), .val (.int p1), .val (.int 5), .val (.ref mp), .val (.int (p1 * (5 : Int32))), .val (.long ((((f_ca f n (p1 * (5 : Int32))) * (1 : Int64)) + ((f_ca f n ((p1 * (5 : Int32)) + (1 : Int32))) * (md).toInt64)) + ((f_ca f n ((p1 * (5 : Int32)) + (2 : Int32))) * ((md).toInt64 * (md).toInt64)))), .second] [(.int 3), (.ref mp), (.long (f_ca f n ((p1 * (5 : Int32)) + (3 : Int32)))), (.long ((((f_ca f n (p1 * (5 : Int32))) * (1 : Int64)) + ((f_ca f n ((p1 * (5 : Int32)) + (1 : Int32))) * (md).toInt64)) + ((f_ca f n ((p1 * (5 : Int32)) + (2 : Int32))) * ((md).toInt64 * (md).toInt64))))])) rfl rfl (hb hby d7_78) t k) ?_
  refine Wp.back (U' := (T10.setTop (mkF m 95 #[.val (.ref ce), .val (.int p1), .val (.int 5), .val (.ref mp), .val (.int (p1 * (5 : Int32))), .val (.long (((((f_ca f n (p1 * (5 : Int32))) * (1 : Int64)) + ((f_ca f n ((p1 * (5 : Int32)) + (1 : Int32))) * (md).toInt64)) + ((f_ca f n ((p1 * (5 : Int32)) + (2 : Int32))) * ((md).toInt64 * (md).toInt64))) + ((f_ca f n ((p1 * (5 : Int32)) + (3 : Int32))) * (((md).toInt64 * (md).toInt64) * (md).toInt64)))), .second] [(.int ((p1 * (5 : Int32)) + (4 : Int32))), (.ref ce), (.long (((((f_ca f n (p1 * (5 : Int32))) * (1 : Int64)) + ((f_ca f n ((p1 * (5 : Int32)) + (1 : Int32))) * (md).toInt64)) + ((f_ca f n ((p1 * (5 : Int32)) + (2 : Int32))) * ((md).toInt64 * (md).toInt64))) + ((f_ca f n ((p1 * (5 : Int32)) + (3 : Int32))) * (((md).toInt64 * (md).toInt64) * (md).toInt64))))]))) (fun t k => XS.lmul X10.here hx rfl (hb hby d7_79) rfl (XS.ladd X10.here hx rfl (hb hby d7_80) rfl (XS.lstore X10.here hx rfl (hb hby d7_81) rfl (l' := #[.val (.ref ce), .val (.int p1), .val (.int 5), .val (.ref mp), .val (.int (p1 * (5 : Int32))), .val (.long (((((f_ca f n (p1 * (5 : Int32))) * (1 : Int64)) + ((f_ca f n ((p1 * (5 : Int32)) + (1 : Int32))) * (md).toInt64)) + ((f_ca f n ((p1 * (5 : Int32)) + (2 : Int32))) * ((md).toInt64 * (md).toInt64))) + ((f_ca f n ((p1 * (5 : Int32)) + (3 : Int32))) * (((md).toInt64 * (md).toInt64) * (md).toInt64)))), .second]) rfl (XS.iloadN X10.here hx rfl (hb hby d7_83) rfl (XT.iconstV X10.here hx rfl 4 (hb hby d7_84) (by decide) (XS.icmpNo X10.here hx rfl (hb hby d7_85) rfl (tlt (by decide)).2.2.2 (XS.lload X10.here hx rfl (hb hby d7_88) rfl (XS.aloadN X10.here hx rfl (hb hby d7_90) rfl rfl (XS.iload X10.here hx rfl (hb hby d7_91) rfl (XT.iconstV X10.here hx rfl 4 (hb hby d7_93) (by decide) (XS.iadd X10.here hx rfl (hb hby d7_94) rfl k))))))))))) ?_
  obtain ⟨_, _, ⟨T13, L13, k13, n13⟩, -, X13, ⟨Lc13, hQ13, l13, y13, z13⟩, st13⟩ := Jvm.LawKit.callS X10 hx (y := Y7) hown (mvT hZ (ow hw 42 rfl)) (mvT hZ (ow hw 43 rfl)) (mvT hZ (ow hw 2 rfl)) (mvT hZ (ow hw 44 rfl)) (by decide) (backOf (W := 2) (rm_ca l Z a0 hw [] ce ((p1 * (5 : Int32)) + (4 : Int32)) kc n f T10.heap n0 f11_0 f11_1 hq4 hn4) hZ (ow hw 44 rfl) (ow hw 2 rfl) (by decide) (by decide)) (g := (mkF m 95 #[.val (.ref ce), .val (.int p1), .val (.int 5), .val (.ref mp), .val (.int (p1 * (5 : Int32))), .val (.long (((((f_ca f n (p1 * (5 : Int32))) * (1 : Int64)) + ((f_ca f n ((p1 * (5 : Int32)) + (1 : Int32))) * (md).toInt64)) + ((f_ca f n ((p1 * (5 : Int32)) + (2 : Int32))) * ((md).toInt64 * (md).toInt64))) + ((f_ca f n ((p1 * (5 : Int32)) + (3 : Int32))) * (((md).toInt64 * (md).toInt64) * (md).toInt64)))), .second] [(.int ((p1 * (5 : Int32)) + (4 : Int32))), (.ref ce), (.long (((((f_ca f n (p1 * (5 : Int32))) * (1 : Int64)) + ((f_ca f n ((p1 * (5 : Int32)) + (1 : Int32))) * (md).toInt64)) + ((f_ca f n ((p1 * (5 : Int32)) + (2 : Int32))) * ((md).toInt64 * (md).toInt64))) + ((f_ca f n ((p1 * (5 : Int32)) + (3 : Int32))) * (((md).toInt64 * (md).toInt64) * (md).toInt64))))])) rfl (by rw [hml]; rfl) (argsL := [(.ref ce), (.int ((p1 * (5 : Int32)) + (4 : Int32)))]) (rest := [(.long (((((f_ca f n (p1 * (5 : Int32))) * (1 : Int64)) + ((f_ca f n ((p1 * (5 : Int32)) + (1 : Int32))) * (md).toInt64)) + ((f_ca f n ((p1 * (5 : Int32)) + (2 : Int32))) * ((md).toInt64 * (md).toInt64))) + ((f_ca f n ((p1 * (5 : Int32)) + (3 : Int32))) * (((md).toInt64 * (md).toInt64) * (md).toInt64))))]) (lenOf pd_3 rfl) rfl (Nat.le_of_eq rfl) (hb hby d7_95) (fun _ _ => ⟨rfl, rfl, (by decide : 0 + 0 ≤ _), (by decide : 0 + 0 ≤ _)⟩)
  dsimp only [Pt.U, Pt.locs, Pt.cells, Pt.slots] at X13 l13 y13 z13 st13 hQ13
  subst l13 y13 z13
  obtain ⟨rfl, N13q, K13⟩ := hQ13
  have f14_0 := Nat.le_trans f11_0 K13.1
  have f14_1 := f11_1.keep K13 nin0
  have f14_2 := f11_2.keep K13 nin0
  have f14_3 := f11_3.trans K13 all0
  have N13 := Fr.app N10 N13q
  refine Wp.back (U' := (T13.setTop (mkF m 98 #[.val (.ref ce), .val (.int p1), .val (.int 5), .val (.ref mp), .val (.int (p1 * (5 : Int32))), .val (.long (((((f_ca f n (p1 * (5 : Int32))) * (1 : Int64)) + ((f_ca f n ((p1 * (5 : Int32)) + (1 : Int32))) * (md).toInt64)) + ((f_ca f n ((p1 * (5 : Int32)) + (2 : Int32))) * ((md).toInt64 * (md).toInt64))) + ((f_ca f n ((p1 * (5 : Int32)) + (3 : Int32))) * (((md).toInt64 * (md).toInt64) * (md).toInt64)))), .second] [(.long (f_ca f n ((p1 * (5 : Int32)) + (4 : Int32)))), (.long (((((f_ca f n (p1 * (5 : Int32))) * (1 : Int64)) + ((f_ca f n ((p1 * (5 : Int32)) + (1 : Int32))) * (md).toInt64)) + ((f_ca f n ((p1 * (5 : Int32)) + (2 : Int32))) * ((md).toInt64 * (md).toInt64))) + ((f_ca f n ((p1 * (5 : Int32)) + (3 : Int32))) * (((md).toInt64 * (md).toInt64) * (md).toInt64))))]))) st13 ?_
  refine Wp.back (U' := (T13.setTop (mkF m 100 #[.val (.ref ce), .val (.int p1), .val (.int 5), .val (.ref mp), .val (.int (p1 * (5 : Int32))), .val (.long (((((f_ca f n (p1 * (5 : Int32))) * (1 : Int64)) + ((f_ca f n ((p1 * (5 : Int32)) + (1 : Int32))) * (md).toInt64)) + ((f_ca f n ((p1 * (5 : Int32)) + (2 : Int32))) * ((md).toInt64 * (md).toInt64))) + ((f_ca f n ((p1 * (5 : Int32)) + (3 : Int32))) * (((md).toInt64 * (md).toInt64) * (md).toInt64)))), .second] [(.int 4), (.ref mp), (.long (f_ca f n ((p1 * (5 : Int32)) + (4 : Int32)))), (.long (((((f_ca f n (p1 * (5 : Int32))) * (1 : Int64)) + ((f_ca f n ((p1 * (5 : Int32)) + (1 : Int32))) * (md).toInt64)) + ((f_ca f n ((p1 * (5 : Int32)) + (2 : Int32))) * ((md).toInt64 * (md).toInt64))) + ((f_ca f n ((p1 * (5 : Int32)) + (3 : Int32))) * (((md).toInt64 * (md).toInt64) * (md).toInt64))))]))) (fun t k => XS.aloadN X13.here hx rfl (hb hby d7_98) rfl rfl (XT.iconstV X13.here hx rfl 4 (hb hby d7_99) (by decide) k)) ?_
  have vq15 := f14_2
  obtain ⟨cl15, Ar15, qa15, qs15, qn15, qh15, qg15⟩ := vq15
  have hin15 : ¬ ((4 : Int32) < 0 ∨ cl15.slots.size ≤ ((4 : Int32)).toNatClampNeg) := inb_of qs15 ⟨by decide, by decide⟩
  have hat15 : cl15.slots[((4 : Int32)).toNatClampNeg]? = some (.long ((((md).toInt64 * (md).toInt64) * (md).toInt64) * (md).toInt64)) := Has.at qh15 hin15 rfl
  refine Wp.back (U' := (T13.setTop (mkF m 101 #[.val (.ref ce), .val (.int p1), .val (.int 5), .val (.ref mp), .val (.int (p1 * (5 : Int32))), .val (.long (((((f_ca f n (p1 * (5 : Int32))) * (1 : Int64)) + ((f_ca f n ((p1 * (5 : Int32)) + (1 : Int32))) * (md).toInt64)) + ((f_ca f n ((p1 * (5 : Int32)) + (2 : Int32))) * ((md).toInt64 * (md).toInt64))) + ((f_ca f n ((p1 * (5 : Int32)) + (3 : Int32))) * (((md).toInt64 * (md).toInt64) * (md).toInt64)))), .second] [(.long ((((md).toInt64 * (md).toInt64) * (md).toInt64) * (md).toInt64)), (.long (f_ca f n ((p1 * (5 : Int32)) + (4 : Int32)))), (.long (((((f_ca f n (p1 * (5 : Int32))) * (1 : Int64)) + ((f_ca f n ((p1 * (5 : Int32)) + (1 : Int32))) * (md).toInt64)) + ((f_ca f n ((p1 * (5 : Int32)) + (2 : Int32))) * ((md).toInt64 * (md).toInt64))) + ((f_ca f n ((p1 * (5 : Int32)) + (3 : Int32))) * (((md).toInt64 * (md).toInt64) * (md).toInt64))))]))) (fun t k => X13.laload hx (j := (4 : Int32)) (v := (.long ((((md).toInt64 * (md).toInt64) * (md).toInt64) * (md).toInt64))) Ar15.1 (State.isArrayOf_alike hZ.alike Ar15.2.1) Ar15.2.2 hin15 hat15 (g := (mkF m 100 #[.val (.ref ce), .val (.int p1), .val (.int 5), .val (.ref mp), .val (.int (p1 * (5 : Int32))), .val (.long (((((f_ca f n (p1 * (5 : Int32))) * (1 : Int64)) + ((f_ca f n ((p1 * (5 : Int32)) + (1 : Int32))) * (md).toInt64)) + ((f_ca f n ((p1 * (5 : Int32)) + (2 : Int32))) * ((md).toInt64 * (md).toInt64))) + ((f_ca f n ((p1 * (5 : Int32)) + (3 : Int32))) * (((md).toInt64 * (md).toInt64) * (md).toInt64)))), .second] [(.int 4), (.ref mp), (.long (f_ca f n ((p1 * (5 : Int32)) + (4 : Int32)))), (.long (((((f_ca f n (p1 * (5 : Int32))) * (1 : Int64)) + ((f_ca f n ((p1 * (5 : Int32)) + (1 : Int32))) * (md).toInt64)) + ((f_ca f n ((p1 * (5 : Int32)) + (2 : Int32))) * ((md).toInt64 * (md).toInt64))) + ((f_ca f n ((p1 * (5 : Int32)) + (3 : Int32))) * (((md).toInt64 * (md).toInt64) * (md).toInt64))))])) rfl rfl (hb hby d7_100) t k) ?_
  refine Wp.back (U' := (T13.setTop (mkF m 107 #[.val (.ref ce), .val (.int p1), .val (.int 5), .val (.ref mp), .val (.int (p1 * (5 : Int32))), .val (.long ((((((f_ca f n (p1 * (5 : Int32))) * (1 : Int64)) + ((f_ca f n ((p1 * (5 : Int32)) + (1 : Int32))) * (md).toInt64)) + ((f_ca f n ((p1 * (5 : Int32)) + (2 : Int32))) * ((md).toInt64 * (md).toInt64))) + ((f_ca f n ((p1 * (5 : Int32)) + (3 : Int32))) * (((md).toInt64 * (md).toInt64) * (md).toInt64))) + ((f_ca f n ((p1 * (5 : Int32)) + (4 : Int32))) * ((((md).toInt64 * (md).toInt64) * (md).toInt64) * (md).toInt64)))), .second] [(.long ((((((f_ca f n (p1 * (5 : Int32))) * (1 : Int64)) + ((f_ca f n ((p1 * (5 : Int32)) + (1 : Int32))) * (md).toInt64)) + ((f_ca f n ((p1 * (5 : Int32)) + (2 : Int32))) * ((md).toInt64 * (md).toInt64))) + ((f_ca f n ((p1 * (5 : Int32)) + (3 : Int32))) * (((md).toInt64 * (md).toInt64) * (md).toInt64))) + ((f_ca f n ((p1 * (5 : Int32)) + (4 : Int32))) * ((((md).toInt64 * (md).toInt64) * (md).toInt64) * (md).toInt64))))]))) (fun t k => XS.lmul X13.here hx rfl (hb hby d7_101) rfl (XS.ladd X13.here hx rfl (hb hby d7_102) rfl (XS.lstore X13.here hx rfl (hb hby d7_103) rfl (l' := #[.val (.ref ce), .val (.int p1), .val (.int 5), .val (.ref mp), .val (.int (p1 * (5 : Int32))), .val (.long ((((((f_ca f n (p1 * (5 : Int32))) * (1 : Int64)) + ((f_ca f n ((p1 * (5 : Int32)) + (1 : Int32))) * (md).toInt64)) + ((f_ca f n ((p1 * (5 : Int32)) + (2 : Int32))) * ((md).toInt64 * (md).toInt64))) + ((f_ca f n ((p1 * (5 : Int32)) + (3 : Int32))) * (((md).toInt64 * (md).toInt64) * (md).toInt64))) + ((f_ca f n ((p1 * (5 : Int32)) + (4 : Int32))) * ((((md).toInt64 * (md).toInt64) * (md).toInt64) * (md).toInt64)))), .second]) rfl (XS.lload X13.here hx rfl (hb hby d7_105) rfl k)))) ?_
  obtain ⟨fs, hr, hrun, hended, hW, hsame⟩ := X13.leave (v := (some (.long ((((((f_ca f n (p1 * (5 : Int32))) * (1 : Int64)) + ((f_ca f n ((p1 * (5 : Int32)) + (1 : Int32))) * (md).toInt64)) + ((f_ca f n ((p1 * (5 : Int32)) + (2 : Int32))) * ((md).toInt64 * (md).toInt64))) + ((f_ca f n ((p1 * (5 : Int32)) + (3 : Int32))) * (((md).toInt64 * (md).toInt64) * (md).toInt64))) + ((f_ca f n ((p1 * (5 : Int32)) + (4 : Int32))) * ((((md).toInt64 * (md).toInt64) * (md).toInt64) * (md).toInt64)))))) (fun h => by rw [hret] at h; cases h)
  refine Wp.done (retOut X13 hx hret rfl (Or.inr (Or.inl ⟨rfl, rfl, _, rfl⟩)) (hb hby d7_107) hr) hrun hended ⟨_, _, rfl, ?_, ⟨_, rfl⟩, hW, hsame.mono (by decide) (by decide)⟩
  show Q_bl5 Z ce p1 mp kc km n md f h0 n0 _ T13.heap _
  exact ⟨rfl, N13, f14_3⟩
def own_blk (g md n : Int32) (f : Int32 → Int32) (p1 : Int32) : Int64 := if g = (1 : Int32) then ((f_ca f n (p1 * (1 : Int32))) * (1 : Int64)) else if g = (2 : Int32) then (((f_ca f n (p1 * (2 : Int32))) * (1 : Int64)) + ((f_ca f n ((p1 * (2 : Int32)) + (1 : Int32))) * (md).toInt64)) else if g = (3 : Int32) then ((((f_ca f n (p1 * (3 : Int32))) * (1 : Int64)) + ((f_ca f n ((p1 * (3 : Int32)) + (1 : Int32))) * (md).toInt64)) + ((f_ca f n ((p1 * (3 : Int32)) + (2 : Int32))) * ((md).toInt64 * (md).toInt64))) else ((((((f_ca f n (p1 * (5 : Int32))) * (1 : Int64)) + ((f_ca f n ((p1 * (5 : Int32)) + (1 : Int32))) * (md).toInt64)) + ((f_ca f n ((p1 * (5 : Int32)) + (2 : Int32))) * ((md).toInt64 * (md).toInt64))) + ((f_ca f n ((p1 * (5 : Int32)) + (3 : Int32))) * (((md).toInt64 * (md).toInt64) * (md).toInt64))) + ((f_ca f n ((p1 * (5 : Int32)) + (4 : Int32))) * ((((md).toInt64 * (md).toInt64) * (md).toInt64) * (md).toInt64)))
def Q_bl (Z : State) (ce : Addr) (p1 : Int32) (g : Int32) (mp : Addr) (kc : ClassId) (km : ClassId) (n : Int32) (md : Int32) (f : Int32 → Int32) (bb : Int32) (h0 : Heap) (n0 : Nat) (v : Option Value) (h : Heap) (L : List Loc) : Prop := v = some (.long (own_blk g md n f p1)) ∧ Fr n0 L ∧ Keep h0 h []
set_option maxRecDepth 65536 in
set_option maxHeartbeats 40000000 in
theorem rm_bl (l : Launch) (Z : State) (a0 : Array Value) (hw : ∀ d ∈ tables_1, d.before a0 Z = true) (ws : List Jvm.Cond) (ce : Addr) (p1 : Int32) (g : Int32) (mp : Addr) (kc : ClassId) (km : ClassId) (n : Int32) (md : Int32) (f : Int32 → Int32) (bb : Int32) (h0 : Heap) (n0 : Nat) (Z0 : n0 ≤ h0.size) (H0 : Arv Z h0 ce kc .int n (own_C f) (.int 0)) (H1 : Arv Z h0 mp km .long (5 : Int32) [(.long (1 : Int64)), (.long (md).toInt64), (.long ((md).toInt64 * (md).toInt64)), (.long (((md).toInt64 * (md).toInt64) * (md).toInt64)), (.long ((((md).toInt64 * (md).toInt64) * (md).toInt64) * (md).toInt64))] (.long (0 : Int64))) (hok : own_OK g md bb) (hp1 : p1 = 0 ∨ p1 = 1 ∨ p1 = 2 ∨ p1 = 3) (hn4 : ∀ x : Int32, x < n → x < 4) :
    Met l Z Y8 method_5_code 7 (some .long) ws ({ frames := 1, cells := 0, slots := 0, locals := 40 } : Room) #[(.ref ce), (.int p1), (.int g), (.ref mp)] h0 (Q_bl Z ce p1 g mp kc km n md f bb h0 n0) := by
  rcases hok with ⟨rfl, -, -⟩ | ⟨rfl, -, -⟩ | ⟨rfl, -, -⟩ | ⟨rfl, -, -⟩
  · exact rm_bl1 l Z a0 hw ws ce p1 mp kc km n md f h0 n0 Z0 H0 H1 (by rcases hp1 with rfl | rfl | rfl | rfl <;> decide) hn4
  · exact rm_bl2 l Z a0 hw ws ce p1 mp kc km n md f h0 n0 Z0 H0 H1 (by rcases hp1 with rfl | rfl | rfl | rfl <;> decide) (by rcases hp1 with rfl | rfl | rfl | rfl <;> decide) hn4
  · exact rm_bl3 l Z a0 hw ws ce p1 mp kc km n md f h0 n0 Z0 H0 H1 (by rcases hp1 with rfl | rfl | rfl | rfl <;> decide) (by rcases hp1 with rfl | rfl | rfl | rfl <;> decide) (by rcases hp1 with rfl | rfl | rfl | rfl <;> decide) hn4
  · exact rm_bl5 l Z a0 hw ws ce p1 mp kc km n md f h0 n0 Z0 H0 H1 (by rcases hp1 with rfl | rfl | rfl | rfl <;> decide) (by rcases hp1 with rfl | rfl | rfl | rfl <;> decide) (by rcases hp1 with rfl | rfl | rfl | rfl <;> decide) (by rcases hp1 with rfl | rfl | rfl | rfl <;> decide) (by rcases hp1 with rfl | rfl | rfl | rfl <;> decide) hn4
def Q_bo (Z : State) (io : Addr) (p1 : Int32) (q2 : Int64) (ko : ClassId) (fB : Int32 → Int32) (h0 : Heap) (n0 : Nat) (v : Option Value) (h : Heap) (L : List Loc) : Prop := v = some (.int 1) ∧ Fr n0 L ∧ Keep h0 h []
theorem d10_0 : decode method_7_code 0 = .ok (.aload_n 0, 1) := by decide +kernel
theorem d10_1 : decode method_7_code 1 = .ok (.iload_n 1, 1) := by decide +kernel
theorem d10_2 : decode method_7_code 2 = .ok (.baload, 1) := by decide +kernel
theorem d10_3 : decode method_7_code 3 = .ok (.sipush 255, 3) := by decide +kernel
theorem d10_6 : decode method_7_code 6 = .ok (.iand, 1) := by decide +kernel
theorem d10_7 : decode method_7_code 7 = .ok (.lload_n 2, 1) := by decide +kernel
theorem d10_8 : decode method_7_code 8 = .ok (.bipush 56, 2) := by decide +kernel
theorem d10_10 : decode method_7_code 10 = .ok (.bipush 8, 2) := by decide +kernel
theorem d10_12 : decode method_7_code 12 = .ok (.iload_n 1, 1) := by decide +kernel
theorem d10_13 : decode method_7_code 13 = .ok (.imul, 1) := by decide +kernel
theorem d10_14 : decode method_7_code 14 = .ok (.isub, 1) := by decide +kernel
theorem d10_15 : decode method_7_code 15 = .ok (.lushr, 1) := by decide +kernel
theorem d10_16 : decode method_7_code 16 = .ok (.ldc2_w 39, 3) := by decide +kernel
theorem d10_19 : decode method_7_code 19 = .ok (.land, 1) := by decide +kernel
theorem d10_20 : decode method_7_code 20 = .ok (.l2i, 1) := by decide +kernel
theorem d10_21 : decode method_7_code 21 = .ok (.if_icmp .ne 7, 3) := by decide +kernel
theorem d10_24 : decode method_7_code 24 = .ok (.iconst 1, 1) := by decide +kernel
theorem d10_25 : decode method_7_code 25 = .ok (.goto 4, 3) := by decide +kernel
theorem d10_29 : decode method_7_code 29 = .ok (.ireturn, 1) := by decide +kernel
theorem pn10 : plainName "com/example/known_leaks/knownleaks/CellPackingWritePinLaw" = true := by first | (simp [plainName, overriddenIn]; done) | decide +kernel
theorem ef10_RIJ (m : MethodId) (x0 : Addr) (x1 : Int32) (x2 : Int64) : entryFrame m #[(.ref x0), (.int x1), (.long x2)] 4 = mkF m 0 #[.val (.ref x0), .val (.int x1), .val (.long x2), .second] [] := by first | (simp [entryFrame, mkF, argsToLocals, Value.category]; done) | rfl
set_option maxRecDepth 65536 in
set_option maxHeartbeats 40000000 in
theorem rm_bo (l : Launch) (Z : State) (a0 : Array Value) (hw : ∀ d ∈ tables_1, d.before a0 Z = true) (ws : List Jvm.Cond) (io : Addr) (p1 : Int32) (q2 : Int64) (ko : ClassId) (fB : Int32 → Int32) (h0 : Heap) (n0 : Nat) (Z0 : n0 ≤ h0.size) (H0 : Arv Z h0 io ko .byte (9 : Int32) (own_L fB) (.int 0)) (hb9 : ¬ p1 < 0 ∧ p1 < 9) (hok : ((fB p1) &&& (255 : Int32)) = (((((q2).toUInt64 >>> (((56 : Int32) - ((8 : Int32) * p1)) &&& 0x3f).toInt64.toUInt64).toInt64) &&& (255 : Int64))).toInt32) :
    Met l Z Y9 method_7_code 4 (some .boolean) ws ({ frames := 0, cells := 0, slots := 0, locals := 0 } : Room) #[(.ref io), (.int p1), (.long q2)] h0 (Q_bo Z io p1 q2 ko fB h0 n0) := by
  refine own_body (plainFor_of_name pn10) ?_
  intro p e s m below meth c s₁ hx hby hret hlk hml hZ hown hnm X0 e0
  have N0 := Fr.nil n0
  refine Wp.back (U' := (s₁.setTop (mkF m 0 #[.val (.ref io), .val (.int p1), .val (.long q2), .second] []))) (fun t k => castTop (ef10_RIJ m io p1 q2) k) ?_
  refine Wp.back (U' := (s₁.setTop (mkF m 2 #[.val (.ref io), .val (.int p1), .val (.long q2), .second] [(.int p1), (.ref io)]))) (fun t k => XS.aloadN X0.here hx rfl (hb hby d10_0) rfl rfl (XS.iloadN X0.here hx rfl (hb hby d10_1) rfl k)) ?_
  have vq1 := H0
  obtain ⟨cl1, Ar1, qa1, qs1, qn1, qh1, qg1⟩ := vq1
  have hin1 : ¬ (p1 < 0 ∨ cl1.slots.size ≤ (p1).toNatClampNeg) := inb_of qs1 hb9
  have hat1 : cl1.slots[(p1).toNatClampNeg]? = some (.int (fB p1)) := Has.at qh1 hin1 (own_getL fB hb9)
  refine Wp.back (U' := (s₁.setTop (mkF m 3 #[.val (.ref io), .val (.int p1), .val (.long q2), .second] [(.int (fB p1))]))) (fun t k => X0.baloadBytes hx (j := p1) (v := (.int (fB p1))) (by rw [e0]; exact Ar1.1) (State.isArrayOf_alike hZ.alike Ar1.2.1) Ar1.2.2 hin1 hat1 (g := (mkF m 2 #[.val (.ref io), .val (.int p1), .val (.long q2), .second] [(.int p1), (.ref io)])) rfl rfl (hb hby d10_2) t k) ?_
  refine Wp.back (U' := (s₁.setTop (mkF m 21 #[.val (.ref io), .val (.int p1), .val (.long q2), .second] [(.int (((((q2).toUInt64 >>> (((56 : Int32) - ((8 : Int32) * p1)) &&& 0x3f).toInt64.toUInt64).toInt64) &&& (255 : Int64))).toInt32), (.int ((fB p1) &&& (255 : Int32)))]))) (fun t k => XT.sipushV X0.here hx rfl 255 (hb hby d10_3) (by decide) (XS.iand X0.here hx rfl (hb hby d10_6) rfl (XS.lloadN X0.here hx rfl (hb hby d10_7) rfl (XT.bipushV X0.here hx rfl 56 (hb hby d10_8) (by decide) (XT.bipushV X0.here hx rfl 8 (hb hby d10_10) (by decide) (XS.iloadN X0.here hx rfl (hb hby d10_12) rfl (XS.imul X0.here hx rfl (hb hby d10_13) rfl (XS.isub X0.here hx rfl (hb hby d10_14) rfl (XS.lushr X0.here hx rfl (hb hby d10_15) rfl (Jvm.Stand.ldc2J X0 hx hown (mvT hZ (ow hw 51 rfl)) rfl (hb hby d10_16) (XS.land X0.here hx rfl (hb hby d10_19) rfl (XS.l2i X0.here hx rfl (hb hby d10_20) rfl k)))))))))))) ?_
  refine Wp.back (U' := (s₁.setTop (mkF m 29 #[.val (.ref io), .val (.int p1), .val (.long q2), .second] [(.int 1)]))) (fun t k => XS.icmpNo X0.here hx rfl (hb hby d10_21) rfl (teq hok).2 (XT.iconstV X0.here hx rfl 1 (hb hby d10_24) (by decide) (XS.goto X0.here hx rfl (pc0 := 25) (pc' := 29) rfl (hb hby d10_25) (by decide) (by decide) k))) ?_
  obtain ⟨fs, hr, hrun, hended, hW, hsame⟩ := X0.leave (v := (some (.int 1))) (fun h => by rw [hret] at h; cases h)
  refine Wp.done (retN X0 hx (t := .boolean) hret (by simp) (hb hby d10_29) hr) hrun hended ⟨_, _, rfl, ?_, ⟨_, rfl⟩, hW, hsame.mono (by decide) (by decide)⟩
  show Q_bo Z io p1 q2 ko fB h0 n0 _ s₁.heap _
  rw [e0]
  exact ⟨rfl, N0, (Keep.refl h0 [])⟩
def own_I (fB : Int32 → Int32) (q2 : Int64) : Prop := fB (8 : Int32) = (0 : Int32) ∧ ∀ p1 : Int32, ¬ p1 < 0 → p1 < 8 → ((fB p1) &&& (255 : Int32)) = (((((q2).toUInt64 >>> (((56 : Int32) - ((8 : Int32) * p1)) &&& 0x3f).toInt64.toUInt64).toInt64) &&& (255 : Int64))).toInt32
def own_E (g md n bb off : Int32) (f : Int32 → Int32) : Int64 := (((((0 : Int64) ||| (f_pl (own_blk g md n f (0 : Int32)) off (0 : Int32) bb)) ||| (f_pl (own_blk g md n f (1 : Int32)) off (1 : Int32) bb)) ||| (f_pl (own_blk g md n f (2 : Int32)) off (2 : Int32) bb)) ||| (f_pl (own_blk g md n f (3 : Int32)) off (3 : Int32) bb))
def own_z : Int32 → Int32 := fun _ => (0 : Int32)
def own_F (f : Int32 → Int32) (n md : Int32) : Prop := (∀ i, ¬ i < n → f i = 0) ∧ ∀ i, 0 ≤ (f i).toInt ∧ (f i).toInt < md.toInt
theorem own_qk {q : Int32} {k : Nat} (h : q.toInt = (k : Int)) (hk : k < 64) : q.toBitVec.toNat % 64 = k := by
  have h1 : q.toBitVec.toInt = (k : Int) := h
  rw [BitVec.toInt_eq_toNat_cond] at h1
  have h2 := q.toBitVec.isLt
  split at h1 <;> omega
theorem own_shlB (x : Int64) {q : Int32} {k : Nat} (h : q.toInt = (k : Int)) (hk : k < 64) : (x <<< (q &&& 0x3f).toInt64).toBitVec = x.toBitVec <<< k := by
  have hq := own_qk h hk
  show x.toBitVec <<< ((q &&& 0x3f).toInt64.toBitVec.smod 64) = _
  rw [BitVec.shiftLeft_eq', (sm64 q k hq).1, smod64 k (sm64 q k hq).2]
theorem own_ushrB (x : Int64) {q : Int32} {k : Nat} (h : q.toInt = (k : Int)) (hk : k < 64) : ((x.toUInt64 >>> (q &&& 0x3f).toInt64.toUInt64).toInt64).toBitVec = x.toBitVec >>> k := by
  have hq := own_qk h hk
  show x.toBitVec >>> ((q &&& 0x3f).toInt64.toBitVec % 64) = _
  rw [BitVec.ushiftRight_eq', BitVec.toNat_umod, (sm64 q k hq).1, BitVec.toNat_ofNat]
  congr 1
  show k % 2 ^ 64 % 64 = k
  omega
theorem own_l2iB (x : Int64) (b : Nat) (hb : b < 8) : (x.toInt32).toBitVec.getLsbD b = x.toBitVec.getLsbD b := by
  rw [Int64.toBitVec_toInt32, BitVec.getLsbD_signExtend, if_pos (by omega)]
  have h1 : b < 32 := by omega
  simp [h1]
theorem own_i2bB (x : Int32) (b : Nat) (hb : b < 8) : (x.toInt8.toInt32).toBitVec.getLsbD b = x.toBitVec.getLsbD b := by
  rw [Int8.toBitVec_toInt32, BitVec.getLsbD_signExtend, Int32.toBitVec_toInt8, if_pos hb, BitVec.getLsbD_signExtend, if_pos (by omega)]
  have h1 : b < 32 := by omega
  simp [h1, hb]
theorem own_narB (x : Int32) (b : Nat) (hb : b < 8) : (nar .byte x).toBitVec.getLsbD b = x.toBitVec.getLsbD b := own_i2bB x b hb
theorem own_255 (w b : Nat) (hw : 8 ≤ w) (hb : b < w) : (BitVec.ofNat w 255).getLsbD b = decide (b < 8) := by
  rw [BitVec.getLsbD_ofNat, show (255 : Nat) = 2 ^ 8 - 1 from by decide, Nat.testBit_two_pow_sub_one]
  simp [hb]
/-- the bits of the byte array -/
def own_J (fB : Int32 → Int32) (E : Int64) : Prop := fB (8 : Int32) = (0 : Int32) ∧ ∀ p1 : Int32, ¬ p1 < 0 → p1 < 8 → ∀ b, b < 8 → (fB p1).toBitVec.getLsbD b = E.toBitVec.getLsbD (56 - 8 * p1.toInt.toNat + b)
theorem own_p8 {p1 : Int32} (h1 : ¬ p1 < 0) (h2 : p1 < 8) : 0 ≤ p1.toInt ∧ p1.toInt < 8 := by
  rw [Int32.lt_iff_toInt_lt] at h1 h2
  have e0 : (0 : Int32).toInt = 0 := by decide
  have e8 : (8 : Int32).toInt = 8 := by decide
  omega
theorem own_JI {fB : Int32 → Int32} {E : Int64} (h : own_J fB E) : own_I fB E := by
  refine ⟨h.1, fun p1 h1 h2 => ?_⟩
  have hp := own_p8 h1 h2
  have hq : ((56 : Int32) - ((8 : Int32) * p1)).toInt = ((56 - 8 * p1.toInt.toNat : Nat) : Int) := by
    have a1 := c_imul 8 p1
    have a2 := c_isub 56 ((8 : Int32) * p1)
    have a3 := rng32 ((8 : Int32) * p1)
    have a4 := rng32 ((56 : Int32) - ((8 : Int32) * p1))
    have e8 : (8 : Int32).toInt = 8 := by decide
    have e56 : (56 : Int32).toInt = 56 := by decide
    rw [e8] at a1
    rw [e56] at a2
    omega
  apply Int32.toBitVec_inj.mp
  apply BitVec.eq_of_getLsbD_eq
  intro b hb
  have l1 : ((fB p1) &&& (255 : Int32)).toBitVec.getLsbD b = ((fB p1).toBitVec.getLsbD b && decide (b < 8)) := by
    show ((fB p1).toBitVec &&& BitVec.ofNat 32 255).getLsbD b = _
    rw [BitVec.getLsbD_and, own_255 32 b (by decide) hb]
  rw [l1]
  have l2 : ((((((E).toUInt64 >>> (((56 : Int32) - ((8 : Int32) * p1)) &&& 0x3f).toInt64.toUInt64).toInt64) &&& (255 : Int64))).toInt32).toBitVec.getLsbD b = (E.toBitVec.getLsbD (56 - 8 * p1.toInt.toNat + b) && decide (b < 8)) := by
    rw [Int64.toBitVec_toInt32, BitVec.getLsbD_signExtend, if_pos (by omega)]
    have : ((((E).toUInt64 >>> (((56 : Int32) - ((8 : Int32) * p1)) &&& 0x3f).toInt64.toUInt64).toInt64) &&& (255 : Int64)).toBitVec = ((((E).toUInt64 >>> (((56 : Int32) - ((8 : Int32) * p1)) &&& 0x3f).toInt64.toUInt64).toInt64)).toBitVec &&& BitVec.ofNat 64 255 := rfl
    rw [this, BitVec.getLsbD_and, own_255 64 b (by decide) (by omega), own_ushrB E hq (by omega), BitVec.getLsbD_ushiftRight]
    simp [hb]
  rw [l2]
  by_cases c : b < 8
  · rw [h.2 p1 h1 h2 b c]
  · simp [c]
theorem own_J0 : own_J own_z (0 : Int64) := by
  refine ⟨rfl, fun p1 _ _ b _ => ?_⟩
  show (BitVec.ofNat 32 0).getLsbD b = (BitVec.ofNat 64 0).getLsbD _
  simp
/-- after t bytes of the turn -/
def own_K (fB G : Int32 → Int32) (X : Int64) (y t : Nat) : Prop := G (8 : Int32) = (0 : Int32) ∧ ∀ p1 : Int32, ¬ p1 < 0 → p1 < 8 → ∀ b, b < 8 → (G p1).toBitVec.getLsbD b = ((fB p1).toBitVec.getLsbD b || (decide (y ≤ p1.toInt.toNat ∧ p1.toInt.toNat < y + t) && X.toBitVec.getLsbD (56 - 8 * p1.toInt.toNat + b)))
theorem own_stepK {fB G : Int32 → Int32} {X : Int64} {y t : Nat} (h : own_K fB G X y t) (hJ : fB (8 : Int32) = 0) {j C : Int32} (hj : j.toInt = ((y + t : Nat) : Int)) (hy : y + t < 8) (hC : ∀ b, b < 8 → C.toBitVec.getLsbD b = X.toBitVec.getLsbD (56 - 8 * (y + t) + b)) : own_K fB (own_upd G j (nar .byte (((G j) ||| C)).toInt8.toInt32)) X y (t + 1) := by
  have e8 : (8 : Int32).toInt = 8 := by decide
  have e0 : (0 : Int32).toInt = 0 := by decide
  refine ⟨?_, fun p1 h1 h2 b hb => ?_⟩
  · unfold own_upd
    rw [if_neg (fun q => by rw [← q, e8] at hj; omega)]
    exact h.1
  · have hp := own_p8 h1 h2
    unfold own_upd
    by_cases q : p1 = j
    · subst q
      rw [if_pos rfl, own_narB _ b hb, own_i2bB _ b hb]
      show ((G p1).toBitVec ||| C.toBitVec).getLsbD b = _
      rw [BitVec.getLsbD_or, hC b hb, h.2 p1 h1 h2 b hb]
      have e1 : p1.toInt.toNat = y + t := by omega
      rw [e1]
      have n1 : ¬ (y ≤ y + t ∧ y + t < y + t) := by omega
      have n2 : (y ≤ y + t ∧ y + t < y + (t + 1)) := by omega
      simp [n1, n2]
    · rw [if_neg q, h.2 p1 h1 h2 b hb]
      have ne : p1.toInt.toNat ≠ y + t := fun z => q (Int32.toInt_inj.mp (by omega))
      have : (y ≤ p1.toInt.toNat ∧ p1.toInt.toNat < y + t) ↔ (y ≤ p1.toInt.toNat ∧ p1.toInt.toNat < y + (t + 1)) := by omega
      rw [decide_eq_decide.mpr this]
theorem own_lo {v : Int64} {bb : Nat} (hv : 0 ≤ v.toInt ∧ v.toInt < ((2 ^ bb : Nat) : Int)) (k : Nat) (hk : bb ≤ k) : v.toBitVec.getLsbD k = false := by
  have h1 : v.toBitVec.toNat < 2 ^ bb := by
    have h2 : v.toBitVec.toInt = v.toInt := rfl
    rw [BitVec.toInt_eq_toNat_cond] at h2
    have h3 := v.toBitVec.isLt
    split at h2 <;> omega
  rw [BitVec.getLsbD]
  exact Nat.testBit_lt_two_pow (Nat.lt_of_lt_of_le h1 (Nat.pow_le_pow_right (by decide) hk))
/-- numbers of one turn -/
theorem own_num {off bb : Int32} {j : Int64} {jn : Int} (hoff : 0 ≤ off.toInt ∧ off.toInt ≤ 3) (hbb : 1 ≤ bb.toInt ∧ bb.toInt ≤ 20) (hj : j.toInt = jn ∧ 0 ≤ jn ∧ jn ≤ 3) (hs : 24 + (jn + 1) * bb.toInt ≤ 64) :
    ∃ T B : Nat, (own_BT off bb j).toInt = (T : Int) ∧ (T : Int) = 8 * off.toInt + jn * bb.toInt ∧ bb.toInt = (B : Int) ∧ T + B ≤ 64 ∧ (own_by (own_BT off bb j)).toInt = ((T / 8 : Nat) : Int) ∧ (own_ib (own_BT off bb j)).toInt = ((T % 8 : Nat) : Int) ∧ (own_ct (own_BT off bb j) bb).toInt = (((T % 8 + B + 7) / 8 : Nat) : Int) := by
  have hT : (own_BT off bb j).toInt = 8 * off.toInt + jn * bb.toInt := by
    have a1 := c_lmul (off).toInt64 8
    have a2 := c_lmul j (bb).toInt64
    have a3 := c_ladd ((off).toInt64 * 8) (j * (bb).toInt64)
    rw [c_i2l] at a1 a2
    have e8 : (8 : Int64).toInt = 8 := by decide
    have r1 := ((off).toInt64 * 8).toInt_lt
    have r2 := ((off).toInt64 * 8).le_toInt
    have r3 := (j * (bb).toInt64).toInt_lt
    have r4 := (j * (bb).toInt64).le_toInt
    have r5 := (own_BT off bb j).toInt_lt
    have r6 := (own_BT off bb j).le_toInt
    rw [e8] at a1
    rw [hj.1] at a2
    have e : own_BT off bb j = (off).toInt64 * 8 + j * (bb).toInt64 := rfl
    rw [← e] at a3
    have n1 : 0 ≤ jn * bb.toInt := Int.mul_nonneg hj.2.1 (by omega)
    have n2 : jn * bb.toInt ≤ 60 := by
      have : jn * bb.toInt ≤ 3 * 20 := Int.mul_le_mul hj.2.2 hbb.2 (by omega) (by omega)
      omega
    generalize jn * bb.toInt = W at *
    omega
  have n1 : 0 ≤ jn * bb.toInt := Int.mul_nonneg hj.2.1 (by omega)
  rw [Int.add_mul, Int.one_mul] at hs
  generalize hW : jn * bb.toInt = W at *
  obtain ⟨T, eT⟩ : ∃ T : Nat, (T : Int) = 8 * off.toInt + W := ⟨(8 * off.toInt + W).toNat, by omega⟩
  obtain ⟨B, eB⟩ : ∃ B : Nat, bb.toInt = (B : Int) := ⟨bb.toInt.toNat, by omega⟩
  have hT2 : (own_BT off bb j).toInt = (T : Int) := by omega
  have hib : (own_ib (own_BT off bb j)).toInt = ((T % 8 : Nat) : Int) := by
    have a1 := c_maskL (own_BT off bb j) 7 3 (by decide) (by decide)
    have a2 := c_l2i (own_BT off bb j &&& 7)
    have a3 := rng32 (own_ib (own_BT off bb j))
    have e : own_ib (own_BT off bb j) = (own_BT off bb j &&& 7).toInt32 := rfl
    rw [← e] at a2
    rw [hT2] at a1
    have : ((2 ^ 3 : Nat) : Int) = 8 := by decide
    rw [this] at a1
    omega
  refine ⟨T, B, hT2, eT, eB, by omega, ?_, hib, ?_⟩
  · have a1 := c_lushr (own_BT off bb j) 3 3 (by decide) (by decide)
    have a2 := c_l2i ((((own_BT off bb j).toUInt64 >>> ((3 : Int32) &&& 0x3f).toInt64.toUInt64).toInt64))
    have a3 := rng32 (own_by (own_BT off bb j))
    have e : own_by (own_BT off bb j) = ((((own_BT off bb j).toUInt64 >>> ((3 : Int32) &&& 0x3f).toInt64.toUInt64).toInt64)).toInt32 := rfl
    rw [← e] at a2
    rw [hT2] at a1
    have : ((2 ^ 3 : Nat) : Int) = 8 := by decide
    rw [this] at a1
    omega
  · have a1 := c_iadd (own_ib (own_BT off bb j)) bb
    have a2 := c_iadd ((own_ib (own_BT off bb j)) + bb) 7
    have a3 := rng32 ((own_ib (own_BT off bb j)) + bb)
    have a4 := rng32 (((own_ib (own_BT off bb j)) + bb) + 7)
    have e7 : (7 : Int32).toInt = 7 := by decide
    rw [e7] at a2
    have h1 : (((own_ib (own_BT off bb j)) + bb) + 7).toInt = (T % 8 : Nat) + B + 7 := by omega
    have a5 := (c_idiv (((own_ib (own_BT off bb j)) + bb) + 7) 8 8 (by decide) (by decide)).1 (by omega)
    show ((((own_ib (own_BT off bb j)) + bb) + (7 : Int32)) / (8 : Int32)).toInt = _
    rw [a5, h1]
    omega
theorem own_mkRB {off bb : Int32} {j : Int64} {jn : Int} (hoff : 0 ≤ off.toInt ∧ off.toInt ≤ 3) (hbb : 1 ≤ bb.toInt ∧ bb.toInt ≤ 20) (hj : j.toInt = jn ∧ 0 ≤ jn ∧ jn ≤ 3) (hs : 24 + (jn + 1) * bb.toInt ≤ 64) : own_RB (own_BT off bb j) bb := by
  obtain ⟨T, B, h1, h2, h3, h4, h5, h6, h7⟩ := own_num hoff hbb hj hs
  have e0 : (0 : Int32).toInt = 0 := by decide
  have e4 : (4 : Int32).toInt = 4 := by decide
  have e9 : (9 : Int32).toInt = 9 := by decide
  refine ⟨?_, ?_, fun t ht0 ht => ?_⟩
  · rw [Int32.lt_iff_toInt_lt]; omega
  · rw [Int32.lt_iff_toInt_lt]; omega
  · rw [Int32.lt_iff_toInt_lt] at ht ⊢
    rw [Int32.lt_iff_toInt_lt]
    have a1 := c_iadd (own_by (own_BT off bb j)) t
    have a2 := rng32 (own_by (own_BT off bb j) + t)
    omega
theorem own_mkRA {g n i : Int32} (h : 1 ≤ g.toInt ∧ g.toInt ≤ 5 ∧ 0 ≤ i.toInt ∧ i.toInt < n.toInt ∧ n.toInt ≤ 4) : own_RA g n i := by
  have e0 : (0 : Int32).toInt = 0 := by decide
  have e4 : (4 : Int32).toInt = 4 := by decide
  have a1 := c_isub n i
  have a2 := rng32 (n - i)
  have hm : (f_min g (n - i)).toInt ≤ g.toInt ∧ (f_min g (n - i)).toInt ≤ n.toInt - i.toInt ∧ 0 < (f_min g (n - i)).toInt := by
    unfold f_min
    split
    · rename_i q; rw [Int32.lt_iff_toInt_lt] at q; omega
    · rename_i q; rw [Int32.lt_iff_toInt_lt] at q; omega
  refine ⟨?_, ?_, fun t ht0 ht => ?_⟩
  · rw [Int32.lt_iff_toInt_lt]; omega
  · rw [Int32.lt_iff_toInt_lt]; omega
  · have a3 := c_iadd i t
    have a4 := rng32 (i + t)
    rw [Int32.lt_iff_toInt_lt] at ht
    simp only [Int32.lt_iff_toInt_lt]
    omega
theorem own_K0 {fB : Int32 → Int32} {X : Int64} {y : Nat} (h : fB (8 : Int32) = 0) : own_K fB fB X y 0 := by
  refine ⟨h, fun p1 h1 h2 b hb => ?_⟩
  have : ¬ (y ≤ p1.toInt.toNat ∧ p1.toInt.toNat < y + 0) := by omega
  rw [decide_eq_false this, Bool.false_and, Bool.or_false]
theorem own_Kfin {fB G : Int32 → Int32} {E X : Int64} {y t T B : Nat} {v : Int64} (hJ : own_J fB E) (h : own_K fB G X y t) (hy : y = T / 8) (ht : t = (T % 8 + B + 7) / 8) (hT : T + B ≤ 64) (hB : 1 ≤ B) (hX : X.toBitVec = v.toBitVec <<< (64 - T - B)) (hv : ∀ k, B ≤ k → v.toBitVec.getLsbD k = false) : own_J G (E ||| X) := by
  refine ⟨h.1, fun p1 h1 h2 b hb => ?_⟩
  have hp := own_p8 h1 h2
  rw [h.2 p1 h1 h2 b hb, hJ.2 p1 h1 h2 b hb]
  show _ = (E.toBitVec ||| X.toBitVec).getLsbD _
  rw [BitVec.getLsbD_or]
  by_cases c : y ≤ p1.toInt.toNat ∧ p1.toInt.toNat < y + t
  · rw [decide_eq_true c, Bool.true_and]
  · have : X.toBitVec.getLsbD (56 - 8 * p1.toInt.toNat + b) = false := by
      rw [hX, BitVec.getLsbD_shiftLeft]
      by_cases d : 56 - 8 * p1.toInt.toNat + b < 64 - T - B
      · rw [decide_eq_true d, Bool.not_true, Bool.and_false, Bool.false_and]
      · rw [hv (56 - 8 * p1.toInt.toNat + b - (64 - T - B)) (by omega), Bool.and_false]
    rw [decide_eq_false c, this, Bool.false_and]
theorem own_Cb {sh : Int64} {q : Int32} {k : Nat} (h : q.toInt = (k : Int)) (hk : k < 64) (b : Nat) (hb : b < 8) : (((((sh).toUInt64 >>> (q &&& 0x3f).toInt64.toUInt64).toInt64)).toInt32.toInt8.toInt32).toBitVec.getLsbD b = sh.toBitVec.getLsbD (k + b) := by
  rw [own_i2bB _ b hb, own_l2iB _ b hb, own_ushrB sh h hk, BitVec.getLsbD_ushiftRight]
theorem own_turnJ {fB : Int32 → Int32} {E v : Int64} {off bb p2 : Int32} {j : Int64} {jn : Int} (hJ : own_J fB E) (hoff : 0 ≤ off.toInt ∧ off.toInt ≤ 3) (hbb : 1 ≤ bb.toInt ∧ bb.toInt ≤ 20) (hj : j.toInt = jn ∧ 0 ≤ jn ∧ jn ≤ 3) (hs : 24 + (jn + 1) * bb.toInt ≤ 64) (hp2 : p2.toInt = jn) (hv : 0 ≤ v.toInt ∧ v.toInt < ((2 ^ bb.toInt.toNat : Nat) : Int)) : own_J (own_turn fB v (own_BT off bb j) bb) (E ||| f_pl v off p2 bb) := by
  obtain ⟨T, B, h1, h2, h3, h4, h5, h6, h7⟩ := own_num hoff hbb hj hs
  have hX : (f_pl v off p2 bb).toBitVec = v.toBitVec <<< (64 - T - B) := by
    have hq : (((64 : Int32) - ((8 : Int32) * off)) - ((p2 + (1 : Int32)) * bb)).toInt = ((64 - T - B : Nat) : Int) := by
      have a1 := c_imul 8 off
      have a2 := c_isub 64 ((8 : Int32) * off)
      have a3 := c_iadd p2 1
      have a4 := c_imul (p2 + 1) bb
      have a5 := c_isub ((64 : Int32) - ((8 : Int32) * off)) ((p2 + (1 : Int32)) * bb)
      have r1 := rng32 ((8 : Int32) * off)
      have r2 := rng32 ((64 : Int32) - ((8 : Int32) * off))
      have r3 := rng32 (p2 + 1)
      have r4 := rng32 ((p2 + (1 : Int32)) * bb)
      have r5 := rng32 (((64 : Int32) - ((8 : Int32) * off)) - ((p2 + (1 : Int32)) * bb))
      have e8 : (8 : Int32).toInt = 8 := by decide
      have e64 : (64 : Int32).toInt = 64 := by decide
      have e1 : (1 : Int32).toInt = 1 := by decide
      rw [e8] at a1
      rw [e64] at a2
      rw [e1, hp2] at a3
      have e3 : (p2 + 1).toInt = jn + 1 := by omega
      rw [e3, Int.add_mul, Int.one_mul] at a4
      rw [Int.add_mul, Int.one_mul] at hs
      have n1 : 0 ≤ jn * bb.toInt := Int.mul_nonneg hj.2.1 (by omega)
      generalize jn * bb.toInt = W at *
      omega
    unfold f_pl
    split
    · rename_i q
      rw [q]
      show BitVec.ofNat 64 0 = BitVec.ofNat 64 0 <<< (64 - T - B)
      apply BitVec.eq_of_getLsbD_eq
      intro i hi
      simp
    · exact own_shlB v hq (by omega)
  have hS : (own_sh v (own_BT off bb j) bb).toBitVec = v.toBitVec <<< (64 - T % 8 - B) := by
    refine own_shlB v (q := (((64 : Int32) - (own_ib (own_BT off bb j))) - bb)) ?_ (by omega)
    have a1 := c_isub 64 (own_ib (own_BT off bb j))
    have a2 := c_isub ((64 : Int32) - (own_ib (own_BT off bb j))) bb
    have r1 := rng32 ((64 : Int32) - (own_ib (own_BT off bb j)))
    have r2 := rng32 (((64 : Int32) - (own_ib (own_BT off bb j))) - bb)
    have e64 : (64 : Int32).toInt = 64 := by decide
    rw [e64] at a1
    omega
  have hC : ∀ (q : Int32) (t : Nat), q.toInt = ((56 - 8 * t : Nat) : Int) → T / 8 + t < 8 → ∀ b, b < 8 → (((((own_sh v (own_BT off bb j) bb).toUInt64 >>> (q &&& 0x3f).toInt64.toUInt64).toInt64)).toInt32.toInt8.toInt32).toBitVec.getLsbD b = (f_pl v off p2 bb).toBitVec.getLsbD (56 - 8 * (T / 8 + t) + b) := by
    intro q t hq hyt b hb
    rw [own_Cb hq (by omega) b hb, hS, hX, BitVec.getLsbD_shiftLeft, BitVec.getLsbD_shiftLeft]
    have e1 : 56 - 8 * t + b - (64 - T % 8 - B) = 56 - 8 * (T / 8 + t) + b - (64 - T - B) := by omega
    have e2 : (56 - 8 * t + b < 64 - T % 8 - B) ↔ (56 - 8 * (T / 8 + t) + b < 64 - T - B) := by omega
    have e3 : (56 - 8 * t + b < 64) ↔ (56 - 8 * (T / 8 + t) + b < 64) := by omega
    rw [e1, decide_eq_decide.mpr e2, decide_eq_decide.mpr e3]
  have hjx : ∀ (t : Int32) (tn : Nat), t.toInt = (tn : Int) → tn ≤ 3 → ((own_by (own_BT off bb j)) + t).toInt = ((T / 8 + tn : Nat) : Int) := by
    intro t tn ht htn
    have a1 := c_iadd (own_by (own_BT off bb j)) t
    have a2 := rng32 (own_by (own_BT off bb j) + t)
    omega
  have e1 : (1 : Int32).toInt = 1 := by decide
  have e2 : (2 : Int32).toInt = 2 := by decide
  have e3 : (3 : Int32).toInt = 3 := by decide
  have hlo : ∀ k, B ≤ k → v.toBitVec.getLsbD k = false := fun k hk => own_lo hv k (by omega)
  have k1 := own_stepK (own_K0 (fB := fB) (X := f_pl v off p2 bb) (y := T / 8) hJ.1) hJ.1 (hjx 0 0 (by decide) (by omega)) (by omega) (hC 56 0 (by decide) (by omega))
  unfold own_turn
  by_cases c1 : (1 : Int32) < own_ct (own_BT off bb j) bb
  · rw [if_pos c1]
    rw [Int32.lt_iff_toInt_lt] at c1
    have k2 := own_stepK k1 hJ.1 (hjx 1 1 (by decide) (by omega)) (by omega) (hC 48 1 (by decide) (by omega))
    by_cases c2 : (2 : Int32) < own_ct (own_BT off bb j) bb
    · rw [if_pos c2]
      rw [Int32.lt_iff_toInt_lt] at c2
      have k3 := own_stepK k2 hJ.1 (hjx 2 2 (by decide) (by omega)) (by omega) (hC 40 2 (by decide) (by omega))
      by_cases c3 : (3 : Int32) < own_ct (own_BT off bb j) bb
      · rw [if_pos c3]
        rw [Int32.lt_iff_toInt_lt] at c3
        have k4 := own_stepK k3 hJ.1 (hjx 3 3 (by decide) (by omega)) (by omega) (hC 32 3 (by decide) (by omega))
        exact own_Kfin hJ k4 rfl (by omega) h4 (by omega) hX hlo
      · rw [if_neg c3]
        rw [Int32.lt_iff_toInt_lt] at c3
        exact own_Kfin hJ k3 rfl (by omega) h4 (by omega) hX hlo
    · rw [if_neg c2]
      rw [Int32.lt_iff_toInt_lt] at c2
      exact own_Kfin hJ k2 rfl (by omega) h4 (by omega) hX hlo
  · rw [if_neg c1]
    rw [Int32.lt_iff_toInt_lt] at c1
    exact own_Kfin hJ k1 rfl (by omega) h4 (by omega) hX hlo
theorem own_ca {f : Int32 → Int32} {n md : Int32} (hf : own_F f n md) (x : Int32) : f_ca f n x = (f x).toInt64 := by
  unfold f_ca
  split
  · rfl
  · rename_i q; rw [hf.1 x q]; decide
theorem own_pl0 (off p2 bb : Int32) : f_pl (0 : Int64) off p2 bb = 0 := by unfold f_pl; rw [if_pos rfl]
theorem own_stepS {S P a : Int64} {M k : Nat} (h1 : 0 ≤ S.toInt ∧ S.toInt + 1 ≤ ((M ^ k : Nat) : Int)) (h2 : P.toInt = ((M ^ k : Nat) : Int)) (h3 : 0 ≤ a.toInt ∧ a.toInt + 1 ≤ (M : Int)) (h4 : M ^ (k + 1) ≤ 1048576) : 0 ≤ (S + a * P).toInt ∧ (S + a * P).toInt + 1 ≤ ((M ^ (k + 1) : Nat) : Int) := by
  obtain ⟨A, eA⟩ : ∃ A : Nat, a.toInt = (A : Int) := ⟨a.toInt.toNat, by omega⟩
  have b1 : (A + 1) * M ^ k ≤ M * M ^ k := Nat.mul_le_mul_right _ (by omega)
  rw [Nat.add_mul, Nat.one_mul] at b1
  rw [Nat.pow_succ, Nat.mul_comm] at h4 ⊢
  have a1 := c_lmul a P
  have a2 := c_ladd S (a * P)
  have r1 := (a * P).toInt_lt
  have r2 := (a * P).le_toInt
  have r3 := (S + a * P).toInt_lt
  have r4 := (S + a * P).le_toInt
  rw [eA, h2, ← Int.natCast_mul] at a1
  generalize A * M ^ k = W at *
  generalize M * M ^ k = Y at *
  generalize M ^ k = U at *
  omega
theorem own_stepP {P m : Int64} {M k : Nat} (h2 : P.toInt = ((M ^ k : Nat) : Int)) (h3 : m.toInt = (M : Int)) (h4 : M ^ (k + 1) ≤ 1048576) : (P * m).toInt = ((M ^ (k + 1) : Nat) : Int) := by
  have a1 := c_lmul P m
  have r1 := (P * m).toInt_lt
  have r2 := (P * m).le_toInt
  rw [h2, h3, ← Int.natCast_mul, ← Nat.pow_succ] at a1
  generalize M ^ (k + 1) = Y at *
  omega
theorem own_pre {md bb : Int32} {f : Int32 → Int32} {n : Int32} {g : Nat} (hf : own_F f n md) (hb : 1 ≤ bb.toInt ∧ bb.toInt ≤ 20) (hp : md.toInt ^ g ≤ 2 ^ bb.toInt.toNat) : ∃ M : Nat, 1 ≤ M ∧ md.toInt = (M : Int) ∧ (md).toInt64.toInt = (M : Int) ∧ (∀ x, 0 ≤ ((f x).toInt64).toInt ∧ ((f x).toInt64).toInt + 1 ≤ (M : Int)) ∧ M ^ g ≤ 2 ^ bb.toInt.toNat ∧ ∀ k, k ≤ g → M ^ k ≤ 1048576 := by
  have h0 := hf.2 0
  obtain ⟨M, eM⟩ : ∃ M : Nat, md.toInt = (M : Int) := ⟨md.toInt.toNat, by omega⟩
  have h1 : 1 ≤ M := by omega
  have h2 : M ^ g ≤ 2 ^ bb.toInt.toNat := by
    rw [eM] at hp
    exact_mod_cast hp
  refine ⟨M, h1, eM, by rw [c_i2l]; exact eM, fun x => by rw [c_i2l]; have := hf.2 x; omega, h2, fun k hk => ?_⟩
  have h3 : M ^ k ≤ M ^ g := Nat.pow_le_pow_right h1 hk
  have h4 : 2 ^ bb.toInt.toNat ≤ 2 ^ 20 := Nat.pow_le_pow_right (by decide) (by omega)
  have h5 : (2 : Nat) ^ 20 = 1048576 := by decide
  omega
theorem own_fst {a : Int64} {M : Nat} (h : 0 ≤ a.toInt ∧ a.toInt + 1 ≤ (M : Int)) : 0 ≤ (a * (1 : Int64)).toInt ∧ (a * (1 : Int64)).toInt + 1 ≤ ((M ^ 1 : Nat) : Int) := by
  rw [Int64.mul_one, Nat.pow_one]; exact h
theorem own_end {x : Int64} {M g b : Nat} (h : 0 ≤ x.toInt ∧ x.toInt + 1 ≤ ((M ^ g : Nat) : Int)) (h2 : M ^ g ≤ 2 ^ b) : 0 ≤ x.toInt ∧ x.toInt < ((2 ^ b : Nat) : Int) := by
  generalize M ^ g = Y at *
  generalize 2 ^ b = W at *
  omega
theorem own_blkR1 {md bb n : Int32} {f : Int32 → Int32} (hR : own_R1 md bb) (hf : own_F f n md) (j : Int32) : 0 ≤ (own_blk (1 : Int32) md n f j).toInt ∧ (own_blk (1 : Int32) md n f j).toInt < ((2 ^ bb.toInt.toNat : Nat) : Int) := by
  obtain ⟨M, h1, h2, h3, h4, h5, h6⟩ := own_pre hf ⟨hR.1, hR.2.1⟩ hR.2.2.2.2
  rw [own_blk, if_pos rfl]
  simp only [own_ca hf]
  exact own_end (own_fst (h4 _)) h5
theorem own_blkR2 {md bb n : Int32} {f : Int32 → Int32} (hR : own_R2 md bb) (hf : own_F f n md) (j : Int32) : 0 ≤ (own_blk (2 : Int32) md n f j).toInt ∧ (own_blk (2 : Int32) md n f j).toInt < ((2 ^ bb.toInt.toNat : Nat) : Int) := by
  obtain ⟨M, h1, h2, h3, h4, h5, h6⟩ := own_pre hf ⟨hR.1, hR.2.1⟩ hR.2.2.2.2
  rw [own_blk, if_neg (by decide), if_pos rfl]
  simp only [own_ca hf]
  have p1 : (md).toInt64.toInt = ((M ^ 1 : Nat) : Int) := by rw [Nat.pow_one]; exact h3
  exact own_end (own_stepS (own_fst (h4 _)) p1 (h4 _) (h6 2 (by decide))) h5
theorem own_blkR3 {md bb n : Int32} {f : Int32 → Int32} (hR : own_R3 md bb) (hf : own_F f n md) (j : Int32) : 0 ≤ (own_blk (3 : Int32) md n f j).toInt ∧ (own_blk (3 : Int32) md n f j).toInt < ((2 ^ bb.toInt.toNat : Nat) : Int) := by
  obtain ⟨M, h1, h2, h3, h4, h5, h6⟩ := own_pre hf ⟨hR.1, hR.2.1⟩ hR.2.2.2.2
  rw [own_blk, if_neg (by decide), if_neg (by decide), if_pos rfl]
  simp only [own_ca hf]
  have p1 : (md).toInt64.toInt = ((M ^ 1 : Nat) : Int) := by rw [Nat.pow_one]; exact h3
  have p2 := own_stepP p1 h3 (h6 2 (by decide))
  exact own_end (own_stepS (own_stepS (own_fst (h4 _)) p1 (h4 _) (h6 2 (by decide))) p2 (h4 _) (h6 3 (by decide))) h5
theorem own_blkR5 {md bb n : Int32} {f : Int32 → Int32} (hR : own_R5 md bb) (hf : own_F f n md) (j : Int32) : 0 ≤ (own_blk (5 : Int32) md n f j).toInt ∧ (own_blk (5 : Int32) md n f j).toInt < ((2 ^ bb.toInt.toNat : Nat) : Int) := by
  obtain ⟨M, h1, h2, h3, h4, h5, h6⟩ := own_pre hf ⟨hR.1, hR.2.1⟩ hR.2.2.2.2
  rw [own_blk, if_neg (by decide), if_neg (by decide), if_neg (by decide)]
  simp only [own_ca hf]
  have p1 : (md).toInt64.toInt = ((M ^ 1 : Nat) : Int) := by rw [Nat.pow_one]; exact h3
  have p2 := own_stepP p1 h3 (h6 2 (by decide))
  have p3 := own_stepP p2 h3 (h6 3 (by decide))
  have p4 := own_stepP p3 h3 (h6 4 (by decide))
  exact own_end (own_stepS (own_stepS (own_stepS (own_stepS (own_fst (h4 _)) p1 (h4 _) (h6 2 (by decide))) p2 (h4 _) (h6 3 (by decide))) p3 (h4 _) (h6 4 (by decide))) p4 (h4 _) (h6 5 (by decide))) h5
theorem own_b100 {f : Int32 → Int32} {md : Int32} (hf : own_F f (0 : Int32) md) : own_blk (1 : Int32) md (0 : Int32) f (0 : Int32) = 0 := by
  rw [own_blk, if_pos rfl]
  simp only [own_ca hf]
  simp [hf.1 (0 : Int32) (by decide)]
theorem own_b101 {f : Int32 → Int32} {md : Int32} (hf : own_F f (0 : Int32) md) : own_blk (1 : Int32) md (0 : Int32) f (1 : Int32) = 0 := by
  rw [own_blk, if_pos rfl]
  simp only [own_ca hf]
  simp [hf.1 (1 : Int32) (by decide)]
theorem own_b102 {f : Int32 → Int32} {md : Int32} (hf : own_F f (0 : Int32) md) : own_blk (1 : Int32) md (0 : Int32) f (2 : Int32) = 0 := by
  rw [own_blk, if_pos rfl]
  simp only [own_ca hf]
  simp [hf.1 (2 : Int32) (by decide)]
theorem own_b103 {f : Int32 → Int32} {md : Int32} (hf : own_F f (0 : Int32) md) : own_blk (1 : Int32) md (0 : Int32) f (3 : Int32) = 0 := by
  rw [own_blk, if_pos rfl]
  simp only [own_ca hf]
  simp [hf.1 (3 : Int32) (by decide)]
theorem own_fin10 {off md bb : Int32} {f : Int32 → Int32} (hoff : 0 ≤ off.toInt ∧ off.toInt ≤ 3) (hR : own_R1 md bb) (hf : own_F f (0 : Int32) md) : own_I own_z (own_E (1 : Int32) md (0 : Int32) bb off f) := by
  apply own_JI
  unfold own_E
  rw [own_b100 hf, own_pl0, Int64.or_zero, own_b101 hf, own_pl0, Int64.or_zero, own_b102 hf, own_pl0, Int64.or_zero, own_b103 hf, own_pl0, Int64.or_zero]
  exact own_J0
theorem own_s110 {f : Int32 → Int32} {md : Int32} (hf : own_F f (1 : Int32) md) : (own_sum f md (0 : Int32) (f_min (1 : Int32) ((1 : Int32) - (0 : Int32)))) = own_blk (1 : Int32) md (1 : Int32) f (0 : Int32) := by
  rw [show (f_min (1 : Int32) ((1 : Int32) - (0 : Int32))) = (1 : Int32) from by decide, own_blk, if_pos rfl, own_sum, if_neg (by decide)]
  simp only [own_ca hf]
  simp []
theorem own_b111 {f : Int32 → Int32} {md : Int32} (hf : own_F f (1 : Int32) md) : own_blk (1 : Int32) md (1 : Int32) f (1 : Int32) = 0 := by
  rw [own_blk, if_pos rfl]
  simp only [own_ca hf]
  simp [hf.1 (1 : Int32) (by decide)]
theorem own_b112 {f : Int32 → Int32} {md : Int32} (hf : own_F f (1 : Int32) md) : own_blk (1 : Int32) md (1 : Int32) f (2 : Int32) = 0 := by
  rw [own_blk, if_pos rfl]
  simp only [own_ca hf]
  simp [hf.1 (2 : Int32) (by decide)]
theorem own_b113 {f : Int32 → Int32} {md : Int32} (hf : own_F f (1 : Int32) md) : own_blk (1 : Int32) md (1 : Int32) f (3 : Int32) = 0 := by
  rw [own_blk, if_pos rfl]
  simp only [own_ca hf]
  simp [hf.1 (3 : Int32) (by decide)]
theorem own_fin11 {off md bb : Int32} {f : Int32 → Int32} (hoff : 0 ≤ off.toInt ∧ off.toInt ≤ 3) (hR : own_R1 md bb) (hf : own_F f (1 : Int32) md) : own_I (own_turn own_z (own_sum f md (0 : Int32) (f_min (1 : Int32) ((1 : Int32) - (0 : Int32)))) (own_BT off bb (((0 : Int32) / (1 : Int32))).toInt64) bb) (own_E (1 : Int32) md (1 : Int32) bb off f) := by
  apply own_JI
  have t0 := own_turnJ (j := (((0 : Int32) / (1 : Int32))).toInt64) (p2 := (0 : Int32)) (jn := 0) own_J0 hoff ⟨hR.1, hR.2.1⟩ (by decide) (by have := hR.2.2.1; omega) (by decide) (own_blkR1 hR hf (0 : Int32))
  rw [own_s110 hf]
  unfold own_E
  rw [own_b111 hf, own_pl0, Int64.or_zero, own_b112 hf, own_pl0, Int64.or_zero, own_b113 hf, own_pl0, Int64.or_zero]
  exact t0
theorem own_s120 {f : Int32 → Int32} {md : Int32} (hf : own_F f (2 : Int32) md) : (own_sum f md (0 : Int32) (f_min (1 : Int32) ((2 : Int32) - (0 : Int32)))) = own_blk (1 : Int32) md (2 : Int32) f (0 : Int32) := by
  rw [show (f_min (1 : Int32) ((2 : Int32) - (0 : Int32))) = (1 : Int32) from by decide, own_blk, if_pos rfl, own_sum, if_neg (by decide)]
  simp only [own_ca hf]
  simp []
theorem own_s121 {f : Int32 → Int32} {md : Int32} (hf : own_F f (2 : Int32) md) : (own_sum f md ((0 : Int32) + (1 : Int32)) (f_min (1 : Int32) ((2 : Int32) - ((0 : Int32) + (1 : Int32))))) = own_blk (1 : Int32) md (2 : Int32) f (1 : Int32) := by
  rw [show (f_min (1 : Int32) ((2 : Int32) - ((0 : Int32) + (1 : Int32)))) = (1 : Int32) from by decide, own_blk, if_pos rfl, own_sum, if_neg (by decide)]
  simp only [own_ca hf]
  simp []
theorem own_b122 {f : Int32 → Int32} {md : Int32} (hf : own_F f (2 : Int32) md) : own_blk (1 : Int32) md (2 : Int32) f (2 : Int32) = 0 := by
  rw [own_blk, if_pos rfl]
  simp only [own_ca hf]
  simp [hf.1 (2 : Int32) (by decide)]
theorem own_b123 {f : Int32 → Int32} {md : Int32} (hf : own_F f (2 : Int32) md) : own_blk (1 : Int32) md (2 : Int32) f (3 : Int32) = 0 := by
  rw [own_blk, if_pos rfl]
  simp only [own_ca hf]
  simp [hf.1 (3 : Int32) (by decide)]
theorem own_fin12 {off md bb : Int32} {f : Int32 → Int32} (hoff : 0 ≤ off.toInt ∧ off.toInt ≤ 3) (hR : own_R1 md bb) (hf : own_F f (2 : Int32) md) : own_I (own_turn (own_turn own_z (own_sum f md (0 : Int32) (f_min (1 : Int32) ((2 : Int32) - (0 : Int32)))) (own_BT off bb (((0 : Int32) / (1 : Int32))).toInt64) bb) (own_sum f md ((0 : Int32) + (1 : Int32)) (f_min (1 : Int32) ((2 : Int32) - ((0 : Int32) + (1 : Int32))))) (own_BT off bb ((((0 : Int32) + (1 : Int32)) / (1 : Int32))).toInt64) bb) (own_E (1 : Int32) md (2 : Int32) bb off f) := by
  apply own_JI
  have t0 := own_turnJ (j := (((0 : Int32) / (1 : Int32))).toInt64) (p2 := (0 : Int32)) (jn := 0) own_J0 hoff ⟨hR.1, hR.2.1⟩ (by decide) (by have := hR.2.2.1; omega) (by decide) (own_blkR1 hR hf (0 : Int32))
  have t1 := own_turnJ (j := ((((0 : Int32) + (1 : Int32)) / (1 : Int32))).toInt64) (p2 := (1 : Int32)) (jn := 1) t0 hoff ⟨hR.1, hR.2.1⟩ (by decide) (by have := hR.2.2.1; omega) (by decide) (own_blkR1 hR hf (1 : Int32))
  rw [own_s120 hf]
  rw [own_s121 hf]
  unfold own_E
  rw [own_b122 hf, own_pl0, Int64.or_zero, own_b123 hf, own_pl0, Int64.or_zero]
  exact t1
theorem own_s130 {f : Int32 → Int32} {md : Int32} (hf : own_F f (3 : Int32) md) : (own_sum f md (0 : Int32) (f_min (1 : Int32) ((3 : Int32) - (0 : Int32)))) = own_blk (1 : Int32) md (3 : Int32) f (0 : Int32) := by
  rw [show (f_min (1 : Int32) ((3 : Int32) - (0 : Int32))) = (1 : Int32) from by decide, own_blk, if_pos rfl, own_sum, if_neg (by decide)]
  simp only [own_ca hf]
  simp []
theorem own_s131 {f : Int32 → Int32} {md : Int32} (hf : own_F f (3 : Int32) md) : (own_sum f md ((0 : Int32) + (1 : Int32)) (f_min (1 : Int32) ((3 : Int32) - ((0 : Int32) + (1 : Int32))))) = own_blk (1 : Int32) md (3 : Int32) f (1 : Int32) := by
  rw [show (f_min (1 : Int32) ((3 : Int32) - ((0 : Int32) + (1 : Int32)))) = (1 : Int32) from by decide, own_blk, if_pos rfl, own_sum, if_neg (by decide)]
  simp only [own_ca hf]
  simp []
theorem own_s132 {f : Int32 → Int32} {md : Int32} (hf : own_F f (3 : Int32) md) : (own_sum f md (((0 : Int32) + (1 : Int32)) + (1 : Int32)) (f_min (1 : Int32) ((3 : Int32) - (((0 : Int32) + (1 : Int32)) + (1 : Int32))))) = own_blk (1 : Int32) md (3 : Int32) f (2 : Int32) := by
  rw [show (f_min (1 : Int32) ((3 : Int32) - (((0 : Int32) + (1 : Int32)) + (1 : Int32)))) = (1 : Int32) from by decide, own_blk, if_pos rfl, own_sum, if_neg (by decide)]
  simp only [own_ca hf]
  simp []
theorem own_b133 {f : Int32 → Int32} {md : Int32} (hf : own_F f (3 : Int32) md) : own_blk (1 : Int32) md (3 : Int32) f (3 : Int32) = 0 := by
  rw [own_blk, if_pos rfl]
  simp only [own_ca hf]
  simp [hf.1 (3 : Int32) (by decide)]
theorem own_fin13 {off md bb : Int32} {f : Int32 → Int32} (hoff : 0 ≤ off.toInt ∧ off.toInt ≤ 3) (hR : own_R1 md bb) (hf : own_F f (3 : Int32) md) : own_I (own_turn (own_turn (own_turn own_z (own_sum f md (0 : Int32) (f_min (1 : Int32) ((3 : Int32) - (0 : Int32)))) (own_BT off bb (((0 : Int32) / (1 : Int32))).toInt64) bb) (own_sum f md ((0 : Int32) + (1 : Int32)) (f_min (1 : Int32) ((3 : Int32) - ((0 : Int32) + (1 : Int32))))) (own_BT off bb ((((0 : Int32) + (1 : Int32)) / (1 : Int32))).toInt64) bb) (own_sum f md (((0 : Int32) + (1 : Int32)) + (1 : Int32)) (f_min (1 : Int32) ((3 : Int32) - (((0 : Int32) + (1 : Int32)) + (1 : Int32))))) (own_BT off bb (((((0 : Int32) + (1 : Int32)) + (1 : Int32)) / (1 : Int32))).toInt64) bb) (own_E (1 : Int32) md (3 : Int32) bb off f) := by
  apply own_JI
  have t0 := own_turnJ (j := (((0 : Int32) / (1 : Int32))).toInt64) (p2 := (0 : Int32)) (jn := 0) own_J0 hoff ⟨hR.1, hR.2.1⟩ (by decide) (by have := hR.2.2.1; omega) (by decide) (own_blkR1 hR hf (0 : Int32))
  have t1 := own_turnJ (j := ((((0 : Int32) + (1 : Int32)) / (1 : Int32))).toInt64) (p2 := (1 : Int32)) (jn := 1) t0 hoff ⟨hR.1, hR.2.1⟩ (by decide) (by have := hR.2.2.1; omega) (by decide) (own_blkR1 hR hf (1 : Int32))
  have t2 := own_turnJ (j := (((((0 : Int32) + (1 : Int32)) + (1 : Int32)) / (1 : Int32))).toInt64) (p2 := (2 : Int32)) (jn := 2) t1 hoff ⟨hR.1, hR.2.1⟩ (by decide) (by have := hR.2.2.1; omega) (by decide) (own_blkR1 hR hf (2 : Int32))
  rw [own_s130 hf]
  rw [own_s131 hf]
  rw [own_s132 hf]
  unfold own_E
  rw [own_b133 hf, own_pl0, Int64.or_zero]
  exact t2
theorem own_s140 {f : Int32 → Int32} {md : Int32} (hf : own_F f (4 : Int32) md) : (own_sum f md (0 : Int32) (f_min (1 : Int32) ((4 : Int32) - (0 : Int32)))) = own_blk (1 : Int32) md (4 : Int32) f (0 : Int32) := by
  rw [show (f_min (1 : Int32) ((4 : Int32) - (0 : Int32))) = (1 : Int32) from by decide, own_blk, if_pos rfl, own_sum, if_neg (by decide)]
  simp only [own_ca hf]
  simp []
theorem own_s141 {f : Int32 → Int32} {md : Int32} (hf : own_F f (4 : Int32) md) : (own_sum f md ((0 : Int32) + (1 : Int32)) (f_min (1 : Int32) ((4 : Int32) - ((0 : Int32) + (1 : Int32))))) = own_blk (1 : Int32) md (4 : Int32) f (1 : Int32) := by
  rw [show (f_min (1 : Int32) ((4 : Int32) - ((0 : Int32) + (1 : Int32)))) = (1 : Int32) from by decide, own_blk, if_pos rfl, own_sum, if_neg (by decide)]
  simp only [own_ca hf]
  simp []
theorem own_s142 {f : Int32 → Int32} {md : Int32} (hf : own_F f (4 : Int32) md) : (own_sum f md (((0 : Int32) + (1 : Int32)) + (1 : Int32)) (f_min (1 : Int32) ((4 : Int32) - (((0 : Int32) + (1 : Int32)) + (1 : Int32))))) = own_blk (1 : Int32) md (4 : Int32) f (2 : Int32) := by
  rw [show (f_min (1 : Int32) ((4 : Int32) - (((0 : Int32) + (1 : Int32)) + (1 : Int32)))) = (1 : Int32) from by decide, own_blk, if_pos rfl, own_sum, if_neg (by decide)]
  simp only [own_ca hf]
  simp []
theorem own_s143 {f : Int32 → Int32} {md : Int32} (hf : own_F f (4 : Int32) md) : (own_sum f md ((((0 : Int32) + (1 : Int32)) + (1 : Int32)) + (1 : Int32)) (f_min (1 : Int32) ((4 : Int32) - ((((0 : Int32) + (1 : Int32)) + (1 : Int32)) + (1 : Int32))))) = own_blk (1 : Int32) md (4 : Int32) f (3 : Int32) := by
  rw [show (f_min (1 : Int32) ((4 : Int32) - ((((0 : Int32) + (1 : Int32)) + (1 : Int32)) + (1 : Int32)))) = (1 : Int32) from by decide, own_blk, if_pos rfl, own_sum, if_neg (by decide)]
  simp only [own_ca hf]
  simp []
theorem own_fin14 {off md bb : Int32} {f : Int32 → Int32} (hoff : 0 ≤ off.toInt ∧ off.toInt ≤ 3) (hR : own_R1 md bb) (hf : own_F f (4 : Int32) md) : own_I (own_turn (own_turn (own_turn (own_turn own_z (own_sum f md (0 : Int32) (f_min (1 : Int32) ((4 : Int32) - (0 : Int32)))) (own_BT off bb (((0 : Int32) / (1 : Int32))).toInt64) bb) (own_sum f md ((0 : Int32) + (1 : Int32)) (f_min (1 : Int32) ((4 : Int32) - ((0 : Int32) + (1 : Int32))))) (own_BT off bb ((((0 : Int32) + (1 : Int32)) / (1 : Int32))).toInt64) bb) (own_sum f md (((0 : Int32) + (1 : Int32)) + (1 : Int32)) (f_min (1 : Int32) ((4 : Int32) - (((0 : Int32) + (1 : Int32)) + (1 : Int32))))) (own_BT off bb (((((0 : Int32) + (1 : Int32)) + (1 : Int32)) / (1 : Int32))).toInt64) bb) (own_sum f md ((((0 : Int32) + (1 : Int32)) + (1 : Int32)) + (1 : Int32)) (f_min (1 : Int32) ((4 : Int32) - ((((0 : Int32) + (1 : Int32)) + (1 : Int32)) + (1 : Int32))))) (own_BT off bb ((((((0 : Int32) + (1 : Int32)) + (1 : Int32)) + (1 : Int32)) / (1 : Int32))).toInt64) bb) (own_E (1 : Int32) md (4 : Int32) bb off f) := by
  apply own_JI
  have t0 := own_turnJ (j := (((0 : Int32) / (1 : Int32))).toInt64) (p2 := (0 : Int32)) (jn := 0) own_J0 hoff ⟨hR.1, hR.2.1⟩ (by decide) (by have := hR.2.2.1; omega) (by decide) (own_blkR1 hR hf (0 : Int32))
  have t1 := own_turnJ (j := ((((0 : Int32) + (1 : Int32)) / (1 : Int32))).toInt64) (p2 := (1 : Int32)) (jn := 1) t0 hoff ⟨hR.1, hR.2.1⟩ (by decide) (by have := hR.2.2.1; omega) (by decide) (own_blkR1 hR hf (1 : Int32))
  have t2 := own_turnJ (j := (((((0 : Int32) + (1 : Int32)) + (1 : Int32)) / (1 : Int32))).toInt64) (p2 := (2 : Int32)) (jn := 2) t1 hoff ⟨hR.1, hR.2.1⟩ (by decide) (by have := hR.2.2.1; omega) (by decide) (own_blkR1 hR hf (2 : Int32))
  have t3 := own_turnJ (j := ((((((0 : Int32) + (1 : Int32)) + (1 : Int32)) + (1 : Int32)) / (1 : Int32))).toInt64) (p2 := (3 : Int32)) (jn := 3) t2 hoff ⟨hR.1, hR.2.1⟩ (by decide) (by have := hR.2.2.1; omega) (by decide) (own_blkR1 hR hf (3 : Int32))
  rw [own_s140 hf]
  rw [own_s141 hf]
  rw [own_s142 hf]
  rw [own_s143 hf]
  unfold own_E
  exact t3
theorem own_b200 {f : Int32 → Int32} {md : Int32} (hf : own_F f (0 : Int32) md) : own_blk (2 : Int32) md (0 : Int32) f (0 : Int32) = 0 := by
  rw [own_blk, if_neg (by decide), if_pos rfl]
  simp only [own_ca hf]
  simp [hf.1 (0 : Int32) (by decide), hf.1 (1 : Int32) (by decide)]
theorem own_b201 {f : Int32 → Int32} {md : Int32} (hf : own_F f (0 : Int32) md) : own_blk (2 : Int32) md (0 : Int32) f (1 : Int32) = 0 := by
  rw [own_blk, if_neg (by decide), if_pos rfl]
  simp only [own_ca hf]
  simp [hf.1 (2 : Int32) (by decide), hf.1 (3 : Int32) (by decide)]
theorem own_b202 {f : Int32 → Int32} {md : Int32} (hf : own_F f (0 : Int32) md) : own_blk (2 : Int32) md (0 : Int32) f (2 : Int32) = 0 := by
  rw [own_blk, if_neg (by decide), if_pos rfl]
  simp only [own_ca hf]
  simp [hf.1 (4 : Int32) (by decide), hf.1 (5 : Int32) (by decide)]
theorem own_b203 {f : Int32 → Int32} {md : Int32} (hf : own_F f (0 : Int32) md) : own_blk (2 : Int32) md (0 : Int32) f (3 : Int32) = 0 := by
  rw [own_blk, if_neg (by decide), if_pos rfl]
  simp only [own_ca hf]
  simp [hf.1 (6 : Int32) (by decide), hf.1 (7 : Int32) (by decide)]
theorem own_fin20 {off md bb : Int32} {f : Int32 → Int32} (hoff : 0 ≤ off.toInt ∧ off.toInt ≤ 3) (hR : own_R2 md bb) (hf : own_F f (0 : Int32) md) : own_I own_z (own_E (2 : Int32) md (0 : Int32) bb off f) := by
  apply own_JI
  unfold own_E
  rw [own_b200 hf, own_pl0, Int64.or_zero, own_b201 hf, own_pl0, Int64.or_zero, own_b202 hf, own_pl0, Int64.or_zero, own_b203 hf, own_pl0, Int64.or_zero]
  exact own_J0
theorem own_s210 {f : Int32 → Int32} {md : Int32} (hf : own_F f (1 : Int32) md) : (own_sum f md (0 : Int32) (f_min (2 : Int32) ((1 : Int32) - (0 : Int32)))) = own_blk (2 : Int32) md (1 : Int32) f (0 : Int32) := by
  rw [show (f_min (2 : Int32) ((1 : Int32) - (0 : Int32))) = (1 : Int32) from by decide, own_blk, if_neg (by decide), if_pos rfl, own_sum, if_neg (by decide)]
  simp only [own_ca hf]
  simp [hf.1 (1 : Int32) (by decide)]
theorem own_b211 {f : Int32 → Int32} {md : Int32} (hf : own_F f (1 : Int32) md) : own_blk (2 : Int32) md (1 : Int32) f (1 : Int32) = 0 := by
  rw [own_blk, if_neg (by decide), if_pos rfl]
  simp only [own_ca hf]
  simp [hf.1 (2 : Int32) (by decide), hf.1 (3 : Int32) (by decide)]
theorem own_b212 {f : Int32 → Int32} {md : Int32} (hf : own_F f (1 : Int32) md) : own_blk (2 : Int32) md (1 : Int32) f (2 : Int32) = 0 := by
  rw [own_blk, if_neg (by decide), if_pos rfl]
  simp only [own_ca hf]
  simp [hf.1 (4 : Int32) (by decide), hf.1 (5 : Int32) (by decide)]
theorem own_b213 {f : Int32 → Int32} {md : Int32} (hf : own_F f (1 : Int32) md) : own_blk (2 : Int32) md (1 : Int32) f (3 : Int32) = 0 := by
  rw [own_blk, if_neg (by decide), if_pos rfl]
  simp only [own_ca hf]
  simp [hf.1 (6 : Int32) (by decide), hf.1 (7 : Int32) (by decide)]
theorem own_fin21 {off md bb : Int32} {f : Int32 → Int32} (hoff : 0 ≤ off.toInt ∧ off.toInt ≤ 3) (hR : own_R2 md bb) (hf : own_F f (1 : Int32) md) : own_I (own_turn own_z (own_sum f md (0 : Int32) (f_min (2 : Int32) ((1 : Int32) - (0 : Int32)))) (own_BT off bb (((0 : Int32) / (2 : Int32))).toInt64) bb) (own_E (2 : Int32) md (1 : Int32) bb off f) := by
  apply own_JI
  have t0 := own_turnJ (j := (((0 : Int32) / (2 : Int32))).toInt64) (p2 := (0 : Int32)) (jn := 0) own_J0 hoff ⟨hR.1, hR.2.1⟩ (by decide) (by have := hR.2.2.1; omega) (by decide) (own_blkR2 hR hf (0 : Int32))
  rw [own_s210 hf]
  unfold own_E
  rw [own_b211 hf, own_pl0, Int64.or_zero, own_b212 hf, own_pl0, Int64.or_zero, own_b213 hf, own_pl0, Int64.or_zero]
  exact t0
theorem own_s220 {f : Int32 → Int32} {md : Int32} (hf : own_F f (2 : Int32) md) : (own_sum f md (0 : Int32) (f_min (2 : Int32) ((2 : Int32) - (0 : Int32)))) = own_blk (2 : Int32) md (2 : Int32) f (0 : Int32) := by
  rw [show (f_min (2 : Int32) ((2 : Int32) - (0 : Int32))) = (2 : Int32) from by decide, own_blk, if_neg (by decide), if_pos rfl, own_sum, if_pos (by decide), if_neg (by decide)]
  simp only [own_ca hf]
  simp []
theorem own_b221 {f : Int32 → Int32} {md : Int32} (hf : own_F f (2 : Int32) md) : own_blk (2 : Int32) md (2 : Int32) f (1 : Int32) = 0 := by
  rw [own_blk, if_neg (by decide), if_pos rfl]
  simp only [own_ca hf]
  simp [hf.1 (2 : Int32) (by decide), hf.1 (3 : Int32) (by decide)]
theorem own_b222 {f : Int32 → Int32} {md : Int32} (hf : own_F f (2 : Int32) md) : own_blk (2 : Int32) md (2 : Int32) f (2 : Int32) = 0 := by
  rw [own_blk, if_neg (by decide), if_pos rfl]
  simp only [own_ca hf]
  simp [hf.1 (4 : Int32) (by decide), hf.1 (5 : Int32) (by decide)]
theorem own_b223 {f : Int32 → Int32} {md : Int32} (hf : own_F f (2 : Int32) md) : own_blk (2 : Int32) md (2 : Int32) f (3 : Int32) = 0 := by
  rw [own_blk, if_neg (by decide), if_pos rfl]
  simp only [own_ca hf]
  simp [hf.1 (6 : Int32) (by decide), hf.1 (7 : Int32) (by decide)]
theorem own_fin22 {off md bb : Int32} {f : Int32 → Int32} (hoff : 0 ≤ off.toInt ∧ off.toInt ≤ 3) (hR : own_R2 md bb) (hf : own_F f (2 : Int32) md) : own_I (own_turn own_z (own_sum f md (0 : Int32) (f_min (2 : Int32) ((2 : Int32) - (0 : Int32)))) (own_BT off bb (((0 : Int32) / (2 : Int32))).toInt64) bb) (own_E (2 : Int32) md (2 : Int32) bb off f) := by
  apply own_JI
  have t0 := own_turnJ (j := (((0 : Int32) / (2 : Int32))).toInt64) (p2 := (0 : Int32)) (jn := 0) own_J0 hoff ⟨hR.1, hR.2.1⟩ (by decide) (by have := hR.2.2.1; omega) (by decide) (own_blkR2 hR hf (0 : Int32))
  rw [own_s220 hf]
  unfold own_E
  rw [own_b221 hf, own_pl0, Int64.or_zero, own_b222 hf, own_pl0, Int64.or_zero, own_b223 hf, own_pl0, Int64.or_zero]
  exact t0
theorem own_s230 {f : Int32 → Int32} {md : Int32} (hf : own_F f (3 : Int32) md) : (own_sum f md (0 : Int32) (f_min (2 : Int32) ((3 : Int32) - (0 : Int32)))) = own_blk (2 : Int32) md (3 : Int32) f (0 : Int32) := by
  rw [show (f_min (2 : Int32) ((3 : Int32) - (0 : Int32))) = (2 : Int32) from by decide, own_blk, if_neg (by decide), if_pos rfl, own_sum, if_pos (by decide), if_neg (by decide)]
  simp only [own_ca hf]
  simp []
theorem own_s231 {f : Int32 → Int32} {md : Int32} (hf : own_F f (3 : Int32) md) : (own_sum f md ((0 : Int32) + (2 : Int32)) (f_min (2 : Int32) ((3 : Int32) - ((0 : Int32) + (2 : Int32))))) = own_blk (2 : Int32) md (3 : Int32) f (1 : Int32) := by
  rw [show (f_min (2 : Int32) ((3 : Int32) - ((0 : Int32) + (2 : Int32)))) = (1 : Int32) from by decide, own_blk, if_neg (by decide), if_pos rfl, own_sum, if_neg (by decide)]
  simp only [own_ca hf]
  simp [hf.1 (3 : Int32) (by decide)]
theorem own_b232 {f : Int32 → Int32} {md : Int32} (hf : own_F f (3 : Int32) md) : own_blk (2 : Int32) md (3 : Int32) f (2 : Int32) = 0 := by
  rw [own_blk, if_neg (by decide), if_pos rfl]
  simp only [own_ca hf]
  simp [hf.1 (4 : Int32) (by decide), hf.1 (5 : Int32) (by decide)]
theorem own_b233 {f : Int32 → Int32} {md : Int32} (hf : own_F f (3 : Int32) md) : own_blk (2 : Int32) md (3 : Int32) f (3 : Int32) = 0 := by
  rw [own_blk, if_neg (by decide), if_pos rfl]
  simp only [own_ca hf]
  simp [hf.1 (6 : Int32) (by decide), hf.1 (7 : Int32) (by decide)]
theorem own_fin23 {off md bb : Int32} {f : Int32 → Int32} (hoff : 0 ≤ off.toInt ∧ off.toInt ≤ 3) (hR : own_R2 md bb) (hf : own_F f (3 : Int32) md) : own_I (own_turn (own_turn own_z (own_sum f md (0 : Int32) (f_min (2 : Int32) ((3 : Int32) - (0 : Int32)))) (own_BT off bb (((0 : Int32) / (2 : Int32))).toInt64) bb) (own_sum f md ((0 : Int32) + (2 : Int32)) (f_min (2 : Int32) ((3 : Int32) - ((0 : Int32) + (2 : Int32))))) (own_BT off bb ((((0 : Int32) + (2 : Int32)) / (2 : Int32))).toInt64) bb) (own_E (2 : Int32) md (3 : Int32) bb off f) := by
  apply own_JI
  have t0 := own_turnJ (j := (((0 : Int32) / (2 : Int32))).toInt64) (p2 := (0 : Int32)) (jn := 0) own_J0 hoff ⟨hR.1, hR.2.1⟩ (by decide) (by have := hR.2.2.1; omega) (by decide) (own_blkR2 hR hf (0 : Int32))
  have t1 := own_turnJ (j := ((((0 : Int32) + (2 : Int32)) / (2 : Int32))).toInt64) (p2 := (1 : Int32)) (jn := 1) t0 hoff ⟨hR.1, hR.2.1⟩ (by decide) (by have := hR.2.2.1; omega) (by decide) (own_blkR2 hR hf (1 : Int32))
  rw [own_s230 hf]
  rw [own_s231 hf]
  unfold own_E
  rw [own_b232 hf, own_pl0, Int64.or_zero, own_b233 hf, own_pl0, Int64.or_zero]
  exact t1
theorem own_s240 {f : Int32 → Int32} {md : Int32} (hf : own_F f (4 : Int32) md) : (own_sum f md (0 : Int32) (f_min (2 : Int32) ((4 : Int32) - (0 : Int32)))) = own_blk (2 : Int32) md (4 : Int32) f (0 : Int32) := by
  rw [show (f_min (2 : Int32) ((4 : Int32) - (0 : Int32))) = (2 : Int32) from by decide, own_blk, if_neg (by decide), if_pos rfl, own_sum, if_pos (by decide), if_neg (by decide)]
  simp only [own_ca hf]
  simp []
theorem own_s241 {f : Int32 → Int32} {md : Int32} (hf : own_F f (4 : Int32) md) : (own_sum f md ((0 : Int32) + (2 : Int32)) (f_min (2 : Int32) ((4 : Int32) - ((0 : Int32) + (2 : Int32))))) = own_blk (2 : Int32) md (4 : Int32) f (1 : Int32) := by
  rw [show (f_min (2 : Int32) ((4 : Int32) - ((0 : Int32) + (2 : Int32)))) = (2 : Int32) from by decide, own_blk, if_neg (by decide), if_pos rfl, own_sum, if_pos (by decide), if_neg (by decide)]
  simp only [own_ca hf]
  simp []
theorem own_b242 {f : Int32 → Int32} {md : Int32} (hf : own_F f (4 : Int32) md) : own_blk (2 : Int32) md (4 : Int32) f (2 : Int32) = 0 := by
  rw [own_blk, if_neg (by decide), if_pos rfl]
  simp only [own_ca hf]
  simp [hf.1 (4 : Int32) (by decide), hf.1 (5 : Int32) (by decide)]
theorem own_b243 {f : Int32 → Int32} {md : Int32} (hf : own_F f (4 : Int32) md) : own_blk (2 : Int32) md (4 : Int32) f (3 : Int32) = 0 := by
  rw [own_blk, if_neg (by decide), if_pos rfl]
  simp only [own_ca hf]
  simp [hf.1 (6 : Int32) (by decide), hf.1 (7 : Int32) (by decide)]
theorem own_fin24 {off md bb : Int32} {f : Int32 → Int32} (hoff : 0 ≤ off.toInt ∧ off.toInt ≤ 3) (hR : own_R2 md bb) (hf : own_F f (4 : Int32) md) : own_I (own_turn (own_turn own_z (own_sum f md (0 : Int32) (f_min (2 : Int32) ((4 : Int32) - (0 : Int32)))) (own_BT off bb (((0 : Int32) / (2 : Int32))).toInt64) bb) (own_sum f md ((0 : Int32) + (2 : Int32)) (f_min (2 : Int32) ((4 : Int32) - ((0 : Int32) + (2 : Int32))))) (own_BT off bb ((((0 : Int32) + (2 : Int32)) / (2 : Int32))).toInt64) bb) (own_E (2 : Int32) md (4 : Int32) bb off f) := by
  apply own_JI
  have t0 := own_turnJ (j := (((0 : Int32) / (2 : Int32))).toInt64) (p2 := (0 : Int32)) (jn := 0) own_J0 hoff ⟨hR.1, hR.2.1⟩ (by decide) (by have := hR.2.2.1; omega) (by decide) (own_blkR2 hR hf (0 : Int32))
  have t1 := own_turnJ (j := ((((0 : Int32) + (2 : Int32)) / (2 : Int32))).toInt64) (p2 := (1 : Int32)) (jn := 1) t0 hoff ⟨hR.1, hR.2.1⟩ (by decide) (by have := hR.2.2.1; omega) (by decide) (own_blkR2 hR hf (1 : Int32))
  rw [own_s240 hf]
  rw [own_s241 hf]
  unfold own_E
  rw [own_b242 hf, own_pl0, Int64.or_zero, own_b243 hf, own_pl0, Int64.or_zero]
  exact t1
theorem own_b300 {f : Int32 → Int32} {md : Int32} (hf : own_F f (0 : Int32) md) : own_blk (3 : Int32) md (0 : Int32) f (0 : Int32) = 0 := by
  rw [own_blk, if_neg (by decide), if_neg (by decide), if_pos rfl]
  simp only [own_ca hf]
  simp [hf.1 (0 : Int32) (by decide), hf.1 (1 : Int32) (by decide), hf.1 (2 : Int32) (by decide)]
theorem own_b301 {f : Int32 → Int32} {md : Int32} (hf : own_F f (0 : Int32) md) : own_blk (3 : Int32) md (0 : Int32) f (1 : Int32) = 0 := by
  rw [own_blk, if_neg (by decide), if_neg (by decide), if_pos rfl]
  simp only [own_ca hf]
  simp [hf.1 (3 : Int32) (by decide), hf.1 (4 : Int32) (by decide), hf.1 (5 : Int32) (by decide)]
theorem own_b302 {f : Int32 → Int32} {md : Int32} (hf : own_F f (0 : Int32) md) : own_blk (3 : Int32) md (0 : Int32) f (2 : Int32) = 0 := by
  rw [own_blk, if_neg (by decide), if_neg (by decide), if_pos rfl]
  simp only [own_ca hf]
  simp [hf.1 (6 : Int32) (by decide), hf.1 (7 : Int32) (by decide), hf.1 (8 : Int32) (by decide)]
theorem own_b303 {f : Int32 → Int32} {md : Int32} (hf : own_F f (0 : Int32) md) : own_blk (3 : Int32) md (0 : Int32) f (3 : Int32) = 0 := by
  rw [own_blk, if_neg (by decide), if_neg (by decide), if_pos rfl]
  simp only [own_ca hf]
  simp [hf.1 (9 : Int32) (by decide), hf.1 (10 : Int32) (by decide), hf.1 (11 : Int32) (by decide)]
theorem own_fin30 {off md bb : Int32} {f : Int32 → Int32} (hoff : 0 ≤ off.toInt ∧ off.toInt ≤ 3) (hR : own_R3 md bb) (hf : own_F f (0 : Int32) md) : own_I own_z (own_E (3 : Int32) md (0 : Int32) bb off f) := by
  apply own_JI
  unfold own_E
  rw [own_b300 hf, own_pl0, Int64.or_zero, own_b301 hf, own_pl0, Int64.or_zero, own_b302 hf, own_pl0, Int64.or_zero, own_b303 hf, own_pl0, Int64.or_zero]
  exact own_J0
theorem own_s310 {f : Int32 → Int32} {md : Int32} (hf : own_F f (1 : Int32) md) : (own_sum f md (0 : Int32) (f_min (3 : Int32) ((1 : Int32) - (0 : Int32)))) = own_blk (3 : Int32) md (1 : Int32) f (0 : Int32) := by
  rw [show (f_min (3 : Int32) ((1 : Int32) - (0 : Int32))) = (1 : Int32) from by decide, own_blk, if_neg (by decide), if_neg (by decide), if_pos rfl, own_sum, if_neg (by decide)]
  simp only [own_ca hf]
  simp [hf.1 (1 : Int32) (by decide), hf.1 (2 : Int32) (by decide)]
theorem own_b311 {f : Int32 → Int32} {md : Int32} (hf : own_F f (1 : Int32) md) : own_blk (3 : Int32) md (1 : Int32) f (1 : Int32) = 0 := by
  rw [own_blk, if_neg (by decide), if_neg (by decide), if_pos rfl]
  simp only [own_ca hf]
  simp [hf.1 (3 : Int32) (by decide), hf.1 (4 : Int32) (by decide), hf.1 (5 : Int32) (by decide)]
theorem own_b312 {f : Int32 → Int32} {md : Int32} (hf : own_F f (1 : Int32) md) : own_blk (3 : Int32) md (1 : Int32) f (2 : Int32) = 0 := by
  rw [own_blk, if_neg (by decide), if_neg (by decide), if_pos rfl]
  simp only [own_ca hf]
  simp [hf.1 (6 : Int32) (by decide), hf.1 (7 : Int32) (by decide), hf.1 (8 : Int32) (by decide)]
theorem own_b313 {f : Int32 → Int32} {md : Int32} (hf : own_F f (1 : Int32) md) : own_blk (3 : Int32) md (1 : Int32) f (3 : Int32) = 0 := by
  rw [own_blk, if_neg (by decide), if_neg (by decide), if_pos rfl]
  simp only [own_ca hf]
  simp [hf.1 (9 : Int32) (by decide), hf.1 (10 : Int32) (by decide), hf.1 (11 : Int32) (by decide)]
theorem own_fin31 {off md bb : Int32} {f : Int32 → Int32} (hoff : 0 ≤ off.toInt ∧ off.toInt ≤ 3) (hR : own_R3 md bb) (hf : own_F f (1 : Int32) md) : own_I (own_turn own_z (own_sum f md (0 : Int32) (f_min (3 : Int32) ((1 : Int32) - (0 : Int32)))) (own_BT off bb (((0 : Int32) / (3 : Int32))).toInt64) bb) (own_E (3 : Int32) md (1 : Int32) bb off f) := by
  apply own_JI
  have t0 := own_turnJ (j := (((0 : Int32) / (3 : Int32))).toInt64) (p2 := (0 : Int32)) (jn := 0) own_J0 hoff ⟨hR.1, hR.2.1⟩ (by decide) (by have := hR.2.2.1; omega) (by decide) (own_blkR3 hR hf (0 : Int32))
  rw [own_s310 hf]
  unfold own_E
  rw [own_b311 hf, own_pl0, Int64.or_zero, own_b312 hf, own_pl0, Int64.or_zero, own_b313 hf, own_pl0, Int64.or_zero]
  exact t0
theorem own_s320 {f : Int32 → Int32} {md : Int32} (hf : own_F f (2 : Int32) md) : (own_sum f md (0 : Int32) (f_min (3 : Int32) ((2 : Int32) - (0 : Int32)))) = own_blk (3 : Int32) md (2 : Int32) f (0 : Int32) := by
  rw [show (f_min (3 : Int32) ((2 : Int32) - (0 : Int32))) = (2 : Int32) from by decide, own_blk, if_neg (by decide), if_neg (by decide), if_pos rfl, own_sum, if_pos (by decide), if_neg (by decide)]
  simp only [own_ca hf]
  simp [hf.1 (2 : Int32) (by decide)]
theorem own_b321 {f : Int32 → Int32} {md : Int32} (hf : own_F f (2 : Int32) md) : own_blk (3 : Int32) md (2 : Int32) f (1 : Int32) = 0 := by
  rw [own_blk, if_neg (by decide), if_neg (by decide), if_pos rfl]
  simp only [own_ca hf]
  simp [hf.1 (3 : Int32) (by decide), hf.1 (4 : Int32) (by decide), hf.1 (5 : Int32) (by decide)]
theorem own_b322 {f : Int32 → Int32} {md : Int32} (hf : own_F f (2 : Int32) md) : own_blk (3 : Int32) md (2 : Int32) f (2 : Int32) = 0 := by
  rw [own_blk, if_neg (by decide), if_neg (by decide), if_pos rfl]
  simp only [own_ca hf]
  simp [hf.1 (6 : Int32) (by decide), hf.1 (7 : Int32) (by decide), hf.1 (8 : Int32) (by decide)]
theorem own_b323 {f : Int32 → Int32} {md : Int32} (hf : own_F f (2 : Int32) md) : own_blk (3 : Int32) md (2 : Int32) f (3 : Int32) = 0 := by
  rw [own_blk, if_neg (by decide), if_neg (by decide), if_pos rfl]
  simp only [own_ca hf]
  simp [hf.1 (9 : Int32) (by decide), hf.1 (10 : Int32) (by decide), hf.1 (11 : Int32) (by decide)]
theorem own_fin32 {off md bb : Int32} {f : Int32 → Int32} (hoff : 0 ≤ off.toInt ∧ off.toInt ≤ 3) (hR : own_R3 md bb) (hf : own_F f (2 : Int32) md) : own_I (own_turn own_z (own_sum f md (0 : Int32) (f_min (3 : Int32) ((2 : Int32) - (0 : Int32)))) (own_BT off bb (((0 : Int32) / (3 : Int32))).toInt64) bb) (own_E (3 : Int32) md (2 : Int32) bb off f) := by
  apply own_JI
  have t0 := own_turnJ (j := (((0 : Int32) / (3 : Int32))).toInt64) (p2 := (0 : Int32)) (jn := 0) own_J0 hoff ⟨hR.1, hR.2.1⟩ (by decide) (by have := hR.2.2.1; omega) (by decide) (own_blkR3 hR hf (0 : Int32))
  rw [own_s320 hf]
  unfold own_E
  rw [own_b321 hf, own_pl0, Int64.or_zero, own_b322 hf, own_pl0, Int64.or_zero, own_b323 hf, own_pl0, Int64.or_zero]
  exact t0
theorem own_s330 {f : Int32 → Int32} {md : Int32} (hf : own_F f (3 : Int32) md) : (own_sum f md (0 : Int32) (f_min (3 : Int32) ((3 : Int32) - (0 : Int32)))) = own_blk (3 : Int32) md (3 : Int32) f (0 : Int32) := by
  rw [show (f_min (3 : Int32) ((3 : Int32) - (0 : Int32))) = (3 : Int32) from by decide, own_blk, if_neg (by decide), if_neg (by decide), if_pos rfl, own_sum, if_pos (by decide), if_pos (by decide), if_neg (by decide)]
  simp only [own_ca hf]
  simp []
theorem own_b331 {f : Int32 → Int32} {md : Int32} (hf : own_F f (3 : Int32) md) : own_blk (3 : Int32) md (3 : Int32) f (1 : Int32) = 0 := by
  rw [own_blk, if_neg (by decide), if_neg (by decide), if_pos rfl]
  simp only [own_ca hf]
  simp [hf.1 (3 : Int32) (by decide), hf.1 (4 : Int32) (by decide), hf.1 (5 : Int32) (by decide)]
theorem own_b332 {f : Int32 → Int32} {md : Int32} (hf : own_F f (3 : Int32) md) : own_blk (3 : Int32) md (3 : Int32) f (2 : Int32) = 0 := by
  rw [own_blk, if_neg (by decide), if_neg (by decide), if_pos rfl]
  simp only [own_ca hf]
  simp [hf.1 (6 : Int32) (by decide), hf.1 (7 : Int32) (by decide), hf.1 (8 : Int32) (by decide)]
theorem own_b333 {f : Int32 → Int32} {md : Int32} (hf : own_F f (3 : Int32) md) : own_blk (3 : Int32) md (3 : Int32) f (3 : Int32) = 0 := by
  rw [own_blk, if_neg (by decide), if_neg (by decide), if_pos rfl]
  simp only [own_ca hf]
  simp [hf.1 (9 : Int32) (by decide), hf.1 (10 : Int32) (by decide), hf.1 (11 : Int32) (by decide)]
theorem own_fin33 {off md bb : Int32} {f : Int32 → Int32} (hoff : 0 ≤ off.toInt ∧ off.toInt ≤ 3) (hR : own_R3 md bb) (hf : own_F f (3 : Int32) md) : own_I (own_turn own_z (own_sum f md (0 : Int32) (f_min (3 : Int32) ((3 : Int32) - (0 : Int32)))) (own_BT off bb (((0 : Int32) / (3 : Int32))).toInt64) bb) (own_E (3 : Int32) md (3 : Int32) bb off f) := by
  apply own_JI
  have t0 := own_turnJ (j := (((0 : Int32) / (3 : Int32))).toInt64) (p2 := (0 : Int32)) (jn := 0) own_J0 hoff ⟨hR.1, hR.2.1⟩ (by decide) (by have := hR.2.2.1; omega) (by decide) (own_blkR3 hR hf (0 : Int32))
  rw [own_s330 hf]
  unfold own_E
  rw [own_b331 hf, own_pl0, Int64.or_zero, own_b332 hf, own_pl0, Int64.or_zero, own_b333 hf, own_pl0, Int64.or_zero]
  exact t0
theorem own_s340 {f : Int32 → Int32} {md : Int32} (hf : own_F f (4 : Int32) md) : (own_sum f md (0 : Int32) (f_min (3 : Int32) ((4 : Int32) - (0 : Int32)))) = own_blk (3 : Int32) md (4 : Int32) f (0 : Int32) := by
  rw [show (f_min (3 : Int32) ((4 : Int32) - (0 : Int32))) = (3 : Int32) from by decide, own_blk, if_neg (by decide), if_neg (by decide), if_pos rfl, own_sum, if_pos (by decide), if_pos (by decide), if_neg (by decide)]
  simp only [own_ca hf]
  simp []
theorem own_s341 {f : Int32 → Int32} {md : Int32} (hf : own_F f (4 : Int32) md) : (own_sum f md ((0 : Int32) + (3 : Int32)) (f_min (3 : Int32) ((4 : Int32) - ((0 : Int32) + (3 : Int32))))) = own_blk (3 : Int32) md (4 : Int32) f (1 : Int32) := by
  rw [show (f_min (3 : Int32) ((4 : Int32) - ((0 : Int32) + (3 : Int32)))) = (1 : Int32) from by decide, own_blk, if_neg (by decide), if_neg (by decide), if_pos rfl, own_sum, if_neg (by decide)]
  simp only [own_ca hf]
  simp [hf.1 (4 : Int32) (by decide), hf.1 (5 : Int32) (by decide)]
theorem own_b342 {f : Int32 → Int32} {md : Int32} (hf : own_F f (4 : Int32) md) : own_blk (3 : Int32) md (4 : Int32) f (2 : Int32) = 0 := by
  rw [own_blk, if_neg (by decide), if_neg (by decide), if_pos rfl]
  simp only [own_ca hf]
  simp [hf.1 (6 : Int32) (by decide), hf.1 (7 : Int32) (by decide), hf.1 (8 : Int32) (by decide)]
theorem own_b343 {f : Int32 → Int32} {md : Int32} (hf : own_F f (4 : Int32) md) : own_blk (3 : Int32) md (4 : Int32) f (3 : Int32) = 0 := by
  rw [own_blk, if_neg (by decide), if_neg (by decide), if_pos rfl]
  simp only [own_ca hf]
  simp [hf.1 (9 : Int32) (by decide), hf.1 (10 : Int32) (by decide), hf.1 (11 : Int32) (by decide)]
theorem own_fin34 {off md bb : Int32} {f : Int32 → Int32} (hoff : 0 ≤ off.toInt ∧ off.toInt ≤ 3) (hR : own_R3 md bb) (hf : own_F f (4 : Int32) md) : own_I (own_turn (own_turn own_z (own_sum f md (0 : Int32) (f_min (3 : Int32) ((4 : Int32) - (0 : Int32)))) (own_BT off bb (((0 : Int32) / (3 : Int32))).toInt64) bb) (own_sum f md ((0 : Int32) + (3 : Int32)) (f_min (3 : Int32) ((4 : Int32) - ((0 : Int32) + (3 : Int32))))) (own_BT off bb ((((0 : Int32) + (3 : Int32)) / (3 : Int32))).toInt64) bb) (own_E (3 : Int32) md (4 : Int32) bb off f) := by
  apply own_JI
  have t0 := own_turnJ (j := (((0 : Int32) / (3 : Int32))).toInt64) (p2 := (0 : Int32)) (jn := 0) own_J0 hoff ⟨hR.1, hR.2.1⟩ (by decide) (by have := hR.2.2.1; omega) (by decide) (own_blkR3 hR hf (0 : Int32))
  have t1 := own_turnJ (j := ((((0 : Int32) + (3 : Int32)) / (3 : Int32))).toInt64) (p2 := (1 : Int32)) (jn := 1) t0 hoff ⟨hR.1, hR.2.1⟩ (by decide) (by have := hR.2.2.1; omega) (by decide) (own_blkR3 hR hf (1 : Int32))
  rw [own_s340 hf]
  rw [own_s341 hf]
  unfold own_E
  rw [own_b342 hf, own_pl0, Int64.or_zero, own_b343 hf, own_pl0, Int64.or_zero]
  exact t1
theorem own_b500 {f : Int32 → Int32} {md : Int32} (hf : own_F f (0 : Int32) md) : own_blk (5 : Int32) md (0 : Int32) f (0 : Int32) = 0 := by
  rw [own_blk, if_neg (by decide), if_neg (by decide), if_neg (by decide)]
  simp only [own_ca hf]
  simp [hf.1 (0 : Int32) (by decide), hf.1 (1 : Int32) (by decide), hf.1 (2 : Int32) (by decide), hf.1 (3 : Int32) (by decide), hf.1 (4 : Int32) (by decide)]
theorem own_b501 {f : Int32 → Int32} {md : Int32} (hf : own_F f (0 : Int32) md) : own_blk (5 : Int32) md (0 : Int32) f (1 : Int32) = 0 := by
  rw [own_blk, if_neg (by decide), if_neg (by decide), if_neg (by decide)]
  simp only [own_ca hf]
  simp [hf.1 (5 : Int32) (by decide), hf.1 (6 : Int32) (by decide), hf.1 (7 : Int32) (by decide), hf.1 (8 : Int32) (by decide), hf.1 (9 : Int32) (by decide)]
theorem own_b502 {f : Int32 → Int32} {md : Int32} (hf : own_F f (0 : Int32) md) : own_blk (5 : Int32) md (0 : Int32) f (2 : Int32) = 0 := by
  rw [own_blk, if_neg (by decide), if_neg (by decide), if_neg (by decide)]
  simp only [own_ca hf]
  simp [hf.1 (10 : Int32) (by decide), hf.1 (11 : Int32) (by decide), hf.1 (12 : Int32) (by decide), hf.1 (13 : Int32) (by decide), hf.1 (14 : Int32) (by decide)]
theorem own_b503 {f : Int32 → Int32} {md : Int32} (hf : own_F f (0 : Int32) md) : own_blk (5 : Int32) md (0 : Int32) f (3 : Int32) = 0 := by
  rw [own_blk, if_neg (by decide), if_neg (by decide), if_neg (by decide)]
  simp only [own_ca hf]
  simp [hf.1 (15 : Int32) (by decide), hf.1 (16 : Int32) (by decide), hf.1 (17 : Int32) (by decide), hf.1 (18 : Int32) (by decide), hf.1 (19 : Int32) (by decide)]
theorem own_fin50 {off md bb : Int32} {f : Int32 → Int32} (hoff : 0 ≤ off.toInt ∧ off.toInt ≤ 3) (hR : own_R5 md bb) (hf : own_F f (0 : Int32) md) : own_I own_z (own_E (5 : Int32) md (0 : Int32) bb off f) := by
  apply own_JI
  unfold own_E
  rw [own_b500 hf, own_pl0, Int64.or_zero, own_b501 hf, own_pl0, Int64.or_zero, own_b502 hf, own_pl0, Int64.or_zero, own_b503 hf, own_pl0, Int64.or_zero]
  exact own_J0
theorem own_s510 {f : Int32 → Int32} {md : Int32} (hf : own_F f (1 : Int32) md) : (own_sum f md (0 : Int32) (f_min (5 : Int32) ((1 : Int32) - (0 : Int32)))) = own_blk (5 : Int32) md (1 : Int32) f (0 : Int32) := by
  rw [show (f_min (5 : Int32) ((1 : Int32) - (0 : Int32))) = (1 : Int32) from by decide, own_blk, if_neg (by decide), if_neg (by decide), if_neg (by decide), own_sum, if_neg (by decide)]
  simp only [own_ca hf]
  simp [hf.1 (1 : Int32) (by decide), hf.1 (2 : Int32) (by decide), hf.1 (3 : Int32) (by decide), hf.1 (4 : Int32) (by decide)]
theorem own_b511 {f : Int32 → Int32} {md : Int32} (hf : own_F f (1 : Int32) md) : own_blk (5 : Int32) md (1 : Int32) f (1 : Int32) = 0 := by
  rw [own_blk, if_neg (by decide), if_neg (by decide), if_neg (by decide)]
  simp only [own_ca hf]
  simp [hf.1 (5 : Int32) (by decide), hf.1 (6 : Int32) (by decide), hf.1 (7 : Int32) (by decide), hf.1 (8 : Int32) (by decide), hf.1 (9 : Int32) (by decide)]
theorem own_b512 {f : Int32 → Int32} {md : Int32} (hf : own_F f (1 : Int32) md) : own_blk (5 : Int32) md (1 : Int32) f (2 : Int32) = 0 := by
  rw [own_blk, if_neg (by decide), if_neg (by decide), if_neg (by decide)]
  simp only [own_ca hf]
  simp [hf.1 (10 : Int32) (by decide), hf.1 (11 : Int32) (by decide), hf.1 (12 : Int32) (by decide), hf.1 (13 : Int32) (by decide), hf.1 (14 : Int32) (by decide)]
theorem own_b513 {f : Int32 → Int32} {md : Int32} (hf : own_F f (1 : Int32) md) : own_blk (5 : Int32) md (1 : Int32) f (3 : Int32) = 0 := by
  rw [own_blk, if_neg (by decide), if_neg (by decide), if_neg (by decide)]
  simp only [own_ca hf]
  simp [hf.1 (15 : Int32) (by decide), hf.1 (16 : Int32) (by decide), hf.1 (17 : Int32) (by decide), hf.1 (18 : Int32) (by decide), hf.1 (19 : Int32) (by decide)]
theorem own_fin51 {off md bb : Int32} {f : Int32 → Int32} (hoff : 0 ≤ off.toInt ∧ off.toInt ≤ 3) (hR : own_R5 md bb) (hf : own_F f (1 : Int32) md) : own_I (own_turn own_z (own_sum f md (0 : Int32) (f_min (5 : Int32) ((1 : Int32) - (0 : Int32)))) (own_BT off bb (((0 : Int32) / (5 : Int32))).toInt64) bb) (own_E (5 : Int32) md (1 : Int32) bb off f) := by
  apply own_JI
  have t0 := own_turnJ (j := (((0 : Int32) / (5 : Int32))).toInt64) (p2 := (0 : Int32)) (jn := 0) own_J0 hoff ⟨hR.1, hR.2.1⟩ (by decide) (by have := hR.2.2.1; omega) (by decide) (own_blkR5 hR hf (0 : Int32))
  rw [own_s510 hf]
  unfold own_E
  rw [own_b511 hf, own_pl0, Int64.or_zero, own_b512 hf, own_pl0, Int64.or_zero, own_b513 hf, own_pl0, Int64.or_zero]
  exact t0
theorem own_s520 {f : Int32 → Int32} {md : Int32} (hf : own_F f (2 : Int32) md) : (own_sum f md (0 : Int32) (f_min (5 : Int32) ((2 : Int32) - (0 : Int32)))) = own_blk (5 : Int32) md (2 : Int32) f (0 : Int32) := by
  rw [show (f_min (5 : Int32) ((2 : Int32) - (0 : Int32))) = (2 : Int32) from by decide, own_blk, if_neg (by decide), if_neg (by decide), if_neg (by decide), own_sum, if_pos (by decide), if_neg (by decide)]
  simp only [own_ca hf]
  simp [hf.1 (2 : Int32) (by decide), hf.1 (3 : Int32) (by decide), hf.1 (4 : Int32) (by decide)]
theorem own_b521 {f : Int32 → Int32} {md : Int32} (hf : own_F f (2 : Int32) md) : own_blk (5 : Int32) md (2 : Int32) f (1 : Int32) = 0 := by
  rw [own_blk, if_neg (by decide), if_neg (by decide), if_neg (by decide)]
  simp only [own_ca hf]
  simp [hf.1 (5 : Int32) (by decide), hf.1 (6 : Int32) (by decide), hf.1 (7 : Int32) (by decide), hf.1 (8 : Int32) (by decide), hf.1 (9 : Int32) (by decide)]
theorem own_b522 {f : Int32 → Int32} {md : Int32} (hf : own_F f (2 : Int32) md) : own_blk (5 : Int32) md (2 : Int32) f (2 : Int32) = 0 := by
  rw [own_blk, if_neg (by decide), if_neg (by decide), if_neg (by decide)]
  simp only [own_ca hf]
  simp [hf.1 (10 : Int32) (by decide), hf.1 (11 : Int32) (by decide), hf.1 (12 : Int32) (by decide), hf.1 (13 : Int32) (by decide), hf.1 (14 : Int32) (by decide)]
theorem own_b523 {f : Int32 → Int32} {md : Int32} (hf : own_F f (2 : Int32) md) : own_blk (5 : Int32) md (2 : Int32) f (3 : Int32) = 0 := by
  rw [own_blk, if_neg (by decide), if_neg (by decide), if_neg (by decide)]
  simp only [own_ca hf]
  simp [hf.1 (15 : Int32) (by decide), hf.1 (16 : Int32) (by decide), hf.1 (17 : Int32) (by decide), hf.1 (18 : Int32) (by decide), hf.1 (19 : Int32) (by decide)]
theorem own_fin52 {off md bb : Int32} {f : Int32 → Int32} (hoff : 0 ≤ off.toInt ∧ off.toInt ≤ 3) (hR : own_R5 md bb) (hf : own_F f (2 : Int32) md) : own_I (own_turn own_z (own_sum f md (0 : Int32) (f_min (5 : Int32) ((2 : Int32) - (0 : Int32)))) (own_BT off bb (((0 : Int32) / (5 : Int32))).toInt64) bb) (own_E (5 : Int32) md (2 : Int32) bb off f) := by
  apply own_JI
  have t0 := own_turnJ (j := (((0 : Int32) / (5 : Int32))).toInt64) (p2 := (0 : Int32)) (jn := 0) own_J0 hoff ⟨hR.1, hR.2.1⟩ (by decide) (by have := hR.2.2.1; omega) (by decide) (own_blkR5 hR hf (0 : Int32))
  rw [own_s520 hf]
  unfold own_E
  rw [own_b521 hf, own_pl0, Int64.or_zero, own_b522 hf, own_pl0, Int64.or_zero, own_b523 hf, own_pl0, Int64.or_zero]
  exact t0
theorem own_s530 {f : Int32 → Int32} {md : Int32} (hf : own_F f (3 : Int32) md) : (own_sum f md (0 : Int32) (f_min (5 : Int32) ((3 : Int32) - (0 : Int32)))) = own_blk (5 : Int32) md (3 : Int32) f (0 : Int32) := by
  rw [show (f_min (5 : Int32) ((3 : Int32) - (0 : Int32))) = (3 : Int32) from by decide, own_blk, if_neg (by decide), if_neg (by decide), if_neg (by decide), own_sum, if_pos (by decide), if_pos (by decide), if_neg (by decide)]
  simp only [own_ca hf]
  simp [hf.1 (3 : Int32) (by decide), hf.1 (4 : Int32) (by decide)]
theorem own_b531 {f : Int32 → Int32} {md : Int32} (hf : own_F f (3 : Int32) md) : own_blk (5 : Int32) md (3 : Int32) f (1 : Int32) = 0 := by
  rw [own_blk, if_neg (by decide), if_neg (by decide), if_neg (by decide)]
  simp only [own_ca hf]
  simp [hf.1 (5 : Int32) (by decide), hf.1 (6 : Int32) (by decide), hf.1 (7 : Int32) (by decide), hf.1 (8 : Int32) (by decide), hf.1 (9 : Int32) (by decide)]
theorem own_b532 {f : Int32 → Int32} {md : Int32} (hf : own_F f (3 : Int32) md) : own_blk (5 : Int32) md (3 : Int32) f (2 : Int32) = 0 := by
  rw [own_blk, if_neg (by decide), if_neg (by decide), if_neg (by decide)]
  simp only [own_ca hf]
  simp [hf.1 (10 : Int32) (by decide), hf.1 (11 : Int32) (by decide), hf.1 (12 : Int32) (by decide), hf.1 (13 : Int32) (by decide), hf.1 (14 : Int32) (by decide)]
theorem own_b533 {f : Int32 → Int32} {md : Int32} (hf : own_F f (3 : Int32) md) : own_blk (5 : Int32) md (3 : Int32) f (3 : Int32) = 0 := by
  rw [own_blk, if_neg (by decide), if_neg (by decide), if_neg (by decide)]
  simp only [own_ca hf]
  simp [hf.1 (15 : Int32) (by decide), hf.1 (16 : Int32) (by decide), hf.1 (17 : Int32) (by decide), hf.1 (18 : Int32) (by decide), hf.1 (19 : Int32) (by decide)]
theorem own_fin53 {off md bb : Int32} {f : Int32 → Int32} (hoff : 0 ≤ off.toInt ∧ off.toInt ≤ 3) (hR : own_R5 md bb) (hf : own_F f (3 : Int32) md) : own_I (own_turn own_z (own_sum f md (0 : Int32) (f_min (5 : Int32) ((3 : Int32) - (0 : Int32)))) (own_BT off bb (((0 : Int32) / (5 : Int32))).toInt64) bb) (own_E (5 : Int32) md (3 : Int32) bb off f) := by
  apply own_JI
  have t0 := own_turnJ (j := (((0 : Int32) / (5 : Int32))).toInt64) (p2 := (0 : Int32)) (jn := 0) own_J0 hoff ⟨hR.1, hR.2.1⟩ (by decide) (by have := hR.2.2.1; omega) (by decide) (own_blkR5 hR hf (0 : Int32))
  rw [own_s530 hf]
  unfold own_E
  rw [own_b531 hf, own_pl0, Int64.or_zero, own_b532 hf, own_pl0, Int64.or_zero, own_b533 hf, own_pl0, Int64.or_zero]
  exact t0
theorem own_s540 {f : Int32 → Int32} {md : Int32} (hf : own_F f (4 : Int32) md) : (own_sum f md (0 : Int32) (f_min (5 : Int32) ((4 : Int32) - (0 : Int32)))) = own_blk (5 : Int32) md (4 : Int32) f (0 : Int32) := by
  rw [show (f_min (5 : Int32) ((4 : Int32) - (0 : Int32))) = (4 : Int32) from by decide, own_blk, if_neg (by decide), if_neg (by decide), if_neg (by decide), own_sum, if_pos (by decide), if_pos (by decide), if_pos (by decide)]
  simp only [own_ca hf]
  simp [hf.1 (4 : Int32) (by decide)]
theorem own_b541 {f : Int32 → Int32} {md : Int32} (hf : own_F f (4 : Int32) md) : own_blk (5 : Int32) md (4 : Int32) f (1 : Int32) = 0 := by
  rw [own_blk, if_neg (by decide), if_neg (by decide), if_neg (by decide)]
  simp only [own_ca hf]
  simp [hf.1 (5 : Int32) (by decide), hf.1 (6 : Int32) (by decide), hf.1 (7 : Int32) (by decide), hf.1 (8 : Int32) (by decide), hf.1 (9 : Int32) (by decide)]
theorem own_b542 {f : Int32 → Int32} {md : Int32} (hf : own_F f (4 : Int32) md) : own_blk (5 : Int32) md (4 : Int32) f (2 : Int32) = 0 := by
  rw [own_blk, if_neg (by decide), if_neg (by decide), if_neg (by decide)]
  simp only [own_ca hf]
  simp [hf.1 (10 : Int32) (by decide), hf.1 (11 : Int32) (by decide), hf.1 (12 : Int32) (by decide), hf.1 (13 : Int32) (by decide), hf.1 (14 : Int32) (by decide)]
theorem own_b543 {f : Int32 → Int32} {md : Int32} (hf : own_F f (4 : Int32) md) : own_blk (5 : Int32) md (4 : Int32) f (3 : Int32) = 0 := by
  rw [own_blk, if_neg (by decide), if_neg (by decide), if_neg (by decide)]
  simp only [own_ca hf]
  simp [hf.1 (15 : Int32) (by decide), hf.1 (16 : Int32) (by decide), hf.1 (17 : Int32) (by decide), hf.1 (18 : Int32) (by decide), hf.1 (19 : Int32) (by decide)]
theorem own_fin54 {off md bb : Int32} {f : Int32 → Int32} (hoff : 0 ≤ off.toInt ∧ off.toInt ≤ 3) (hR : own_R5 md bb) (hf : own_F f (4 : Int32) md) : own_I (own_turn own_z (own_sum f md (0 : Int32) (f_min (5 : Int32) ((4 : Int32) - (0 : Int32)))) (own_BT off bb (((0 : Int32) / (5 : Int32))).toInt64) bb) (own_E (5 : Int32) md (4 : Int32) bb off f) := by
  apply own_JI
  have t0 := own_turnJ (j := (((0 : Int32) / (5 : Int32))).toInt64) (p2 := (0 : Int32)) (jn := 0) own_J0 hoff ⟨hR.1, hR.2.1⟩ (by decide) (by have := hR.2.2.1; omega) (by decide) (own_blkR5 hR hf (0 : Int32))
  rw [own_s540 hf]
  unfold own_E
  rw [own_b541 hf, own_pl0, Int64.or_zero, own_b542 hf, own_pl0, Int64.or_zero, own_b543 hf, own_pl0, Int64.or_zero]
  exact t0
def Q_wr (Z : State) (pk : Addr) (ce : Addr) (io : Addr) (off : Int32) (pw : Addr) (kc : ClassId) (kp : ClassId) (ko : ClassId) (g : Int32) (n : Int32) (md : Int32) (bb : Int32) (f : Int32 → Int32) (h0 : Heap) (n0 : Nat) (v : Option Value) (h : Heap) (L : List Loc) : Prop := v = none ∧ Fr n0 L ∧ Keep h0 h [io] ∧ ∃ fB : Int32 → Int32, Arv Z h io ko .byte (9 : Int32) (own_L fB) (.int 0) ∧ own_I fB (own_E g md n bb off f)
set_option maxRecDepth 65536 in
set_option maxHeartbeats 40000000 in
theorem rm_wr (l : Launch) (Z : State) (a0 : Array Value) (hw : ∀ d ∈ tables_1, d.before a0 Z = true) (ws : List Jvm.Cond) (pk : Addr) (ce : Addr) (io : Addr) (off : Int32) (pw : Addr) (kc : ClassId) (kp : ClassId) (ko : ClassId) (g : Int32) (n : Int32) (md : Int32) (bb : Int32) (f : Int32 → Int32) (h0 : Heap) (n0 : Nat) (Z0 : n0 ≤ h0.size) (H0 : Fld Z h0 pk "com/example/known_leaks/knownleaks/CellPacking" "powers" "[J" (.ref pw)) (H1 : Fld Z h0 pk "com/example/known_leaks/knownleaks/CellPacking" "cellsPerBlock" "I" (.int g)) (H2 : Fld Z h0 pk "com/example/known_leaks/knownleaks/CellPacking" "blockBits" "I" (.int bb)) (H3 : Arv Z h0 ce kc .int n (own_C f) (.int 0)) (H4 : Arv Z h0 pw kp .long g (own_P md) (.long (0 : Int64))) (H5 : Arv Z h0 io ko .byte (9 : Int32) (own_L own_z) (.int 0)) (g_io : n0 ≤ io) (ne_pk_io : pk ≠ io) (ne_ce_io : ce ≠ io) (ne_pw_io : pw ≠ io) (hok : own_OK g md bb) (hn : n = (0 : Int32) ∨ n = (1 : Int32) ∨ n = (2 : Int32) ∨ n = (3 : Int32) ∨ n = (4 : Int32)) (hoff : 0 ≤ off.toInt ∧ off.toInt ≤ 3) (hf : own_F f n md) :
    Met l Z Y5 prog_4_method_7_code 15 none ws ({ frames := 1, cells := 0, slots := 0, locals := 15 } : Room) #[(.ref pk), (.ref ce), (.ref io), (.int off)] h0 (Q_wr Z pk ce io off pw kc kp ko g n md bb f h0 n0) := by
  rcases hok with ⟨rfl, -, hR⟩ | ⟨rfl, -, hR⟩ | ⟨rfl, -, hR⟩ | ⟨rfl, -, hR⟩
  · rcases hn with rfl | rfl | rfl | rfl | rfl
    · refine own_mono (rm_wr0 l Z a0 hw ws pk ce io off pw kc kp ko (1 : Int32) (0 : Int32) md bb f own_z h0 n0 Z0 H0 H1 H2 H3 H4 H5 g_io ne_pk_io ne_ce_io ne_pw_io (by decide) (by decide) ) ?_
      rintro v h L ⟨r1, r2, r3, r4⟩
      exact ⟨r1, r2, r3, _, r4, own_fin10 hoff hR hf⟩
    · refine own_mono (rm_wr1 l Z a0 hw ws pk ce io off pw kc kp ko (1 : Int32) (1 : Int32) md bb f own_z h0 n0 Z0 H0 H1 H2 H3 H4 H5 g_io ne_pk_io ne_ce_io ne_pw_io (by decide) (by decide) (by decide) (own_mkRA (by decide)) (own_mkRB (jn := 0) hoff ⟨hR.1, hR.2.1⟩ (by decide) (by have := hR.2.2.1; omega))) ?_
      rintro v h L ⟨r1, r2, r3, r4⟩
      exact ⟨r1, r2, r3, _, r4, own_fin11 hoff hR hf⟩
    · refine own_mono (rm_wr2 l Z a0 hw ws pk ce io off pw kc kp ko (1 : Int32) (2 : Int32) md bb f own_z h0 n0 Z0 H0 H1 H2 H3 H4 H5 g_io ne_pk_io ne_ce_io ne_pw_io (by decide) (by decide) (by decide) (by decide) (own_mkRA (by decide)) (own_mkRB (jn := 0) hoff ⟨hR.1, hR.2.1⟩ (by decide) (by have := hR.2.2.1; omega)) (own_mkRA (by decide)) (own_mkRB (jn := 1) hoff ⟨hR.1, hR.2.1⟩ (by decide) (by have := hR.2.2.1; omega))) ?_
      rintro v h L ⟨r1, r2, r3, r4⟩
      exact ⟨r1, r2, r3, _, r4, own_fin12 hoff hR hf⟩
    · refine own_mono (rm_wr3 l Z a0 hw ws pk ce io off pw kc kp ko (1 : Int32) (3 : Int32) md bb f own_z h0 n0 Z0 H0 H1 H2 H3 H4 H5 g_io ne_pk_io ne_ce_io ne_pw_io (by decide) (by decide) (by decide) (by decide) (by decide) (own_mkRA (by decide)) (own_mkRB (jn := 0) hoff ⟨hR.1, hR.2.1⟩ (by decide) (by have := hR.2.2.1; omega)) (own_mkRA (by decide)) (own_mkRB (jn := 1) hoff ⟨hR.1, hR.2.1⟩ (by decide) (by have := hR.2.2.1; omega)) (own_mkRA (by decide)) (own_mkRB (jn := 2) hoff ⟨hR.1, hR.2.1⟩ (by decide) (by have := hR.2.2.1; omega))) ?_
      rintro v h L ⟨r1, r2, r3, r4⟩
      exact ⟨r1, r2, r3, _, r4, own_fin13 hoff hR hf⟩
    · refine own_mono (rm_wr4 l Z a0 hw ws pk ce io off pw kc kp ko (1 : Int32) (4 : Int32) md bb f own_z h0 n0 Z0 H0 H1 H2 H3 H4 H5 g_io ne_pk_io ne_ce_io ne_pw_io (by decide) (by decide) (by decide) (by decide) (by decide) (by decide) (own_mkRA (by decide)) (own_mkRB (jn := 0) hoff ⟨hR.1, hR.2.1⟩ (by decide) (by have := hR.2.2.1; omega)) (own_mkRA (by decide)) (own_mkRB (jn := 1) hoff ⟨hR.1, hR.2.1⟩ (by decide) (by have := hR.2.2.1; omega)) (own_mkRA (by decide)) (own_mkRB (jn := 2) hoff ⟨hR.1, hR.2.1⟩ (by decide) (by have := hR.2.2.1; omega)) (own_mkRA (by decide)) (own_mkRB (jn := 3) hoff ⟨hR.1, hR.2.1⟩ (by decide) (by have := hR.2.2.1; omega))) ?_
      rintro v h L ⟨r1, r2, r3, r4⟩
      exact ⟨r1, r2, r3, _, r4, own_fin14 hoff hR hf⟩
  · rcases hn with rfl | rfl | rfl | rfl | rfl
    · refine own_mono (rm_wr0 l Z a0 hw ws pk ce io off pw kc kp ko (2 : Int32) (0 : Int32) md bb f own_z h0 n0 Z0 H0 H1 H2 H3 H4 H5 g_io ne_pk_io ne_ce_io ne_pw_io (by decide) (by decide) ) ?_
      rintro v h L ⟨r1, r2, r3, r4⟩
      exact ⟨r1, r2, r3, _, r4, own_fin20 hoff hR hf⟩
    · refine own_mono (rm_wr1 l Z a0 hw ws pk ce io off pw kc kp ko (2 : Int32) (1 : Int32) md bb f own_z h0 n0 Z0 H0 H1 H2 H3 H4 H5 g_io ne_pk_io ne_ce_io ne_pw_io (by decide) (by decide) (by decide) (own_mkRA (by decide)) (own_mkRB (jn := 0) hoff ⟨hR.1, hR.2.1⟩ (by decide) (by have := hR.2.2.1; omega))) ?_
      rintro v h L ⟨r1, r2, r3, r4⟩
      exact ⟨r1, r2, r3, _, r4, own_fin21 hoff hR hf⟩
    · refine own_mono (rm_wr1 l Z a0 hw ws pk ce io off pw kc kp ko (2 : Int32) (2 : Int32) md bb f own_z h0 n0 Z0 H0 H1 H2 H3 H4 H5 g_io ne_pk_io ne_ce_io ne_pw_io (by decide) (by decide) (by decide) (own_mkRA (by decide)) (own_mkRB (jn := 0) hoff ⟨hR.1, hR.2.1⟩ (by decide) (by have := hR.2.2.1; omega))) ?_
      rintro v h L ⟨r1, r2, r3, r4⟩
      exact ⟨r1, r2, r3, _, r4, own_fin22 hoff hR hf⟩
    · refine own_mono (rm_wr2 l Z a0 hw ws pk ce io off pw kc kp ko (2 : Int32) (3 : Int32) md bb f own_z h0 n0 Z0 H0 H1 H2 H3 H4 H5 g_io ne_pk_io ne_ce_io ne_pw_io (by decide) (by decide) (by decide) (by decide) (own_mkRA (by decide)) (own_mkRB (jn := 0) hoff ⟨hR.1, hR.2.1⟩ (by decide) (by have := hR.2.2.1; omega)) (own_mkRA (by decide)) (own_mkRB (jn := 1) hoff ⟨hR.1, hR.2.1⟩ (by decide) (by have := hR.2.2.1; omega))) ?_
      rintro v h L ⟨r1, r2, r3, r4⟩
      exact ⟨r1, r2, r3, _, r4, own_fin23 hoff hR hf⟩
    · refine own_mono (rm_wr2 l Z a0 hw ws pk ce io off pw kc kp ko (2 : Int32) (4 : Int32) md bb f own_z h0 n0 Z0 H0 H1 H2 H3 H4 H5 g_io ne_pk_io ne_ce_io ne_pw_io (by decide) (by decide) (by decide) (by decide) (own_mkRA (by decide)) (own_mkRB (jn := 0) hoff ⟨hR.1, hR.2.1⟩ (by decide) (by have := hR.2.2.1; omega)) (own_mkRA (by decide)) (own_mkRB (jn := 1) hoff ⟨hR.1, hR.2.1⟩ (by decide) (by have := hR.2.2.1; omega))) ?_
      rintro v h L ⟨r1, r2, r3, r4⟩
      exact ⟨r1, r2, r3, _, r4, own_fin24 hoff hR hf⟩
  · rcases hn with rfl | rfl | rfl | rfl | rfl
    · refine own_mono (rm_wr0 l Z a0 hw ws pk ce io off pw kc kp ko (3 : Int32) (0 : Int32) md bb f own_z h0 n0 Z0 H0 H1 H2 H3 H4 H5 g_io ne_pk_io ne_ce_io ne_pw_io (by decide) (by decide) ) ?_
      rintro v h L ⟨r1, r2, r3, r4⟩
      exact ⟨r1, r2, r3, _, r4, own_fin30 hoff hR hf⟩
    · refine own_mono (rm_wr1 l Z a0 hw ws pk ce io off pw kc kp ko (3 : Int32) (1 : Int32) md bb f own_z h0 n0 Z0 H0 H1 H2 H3 H4 H5 g_io ne_pk_io ne_ce_io ne_pw_io (by decide) (by decide) (by decide) (own_mkRA (by decide)) (own_mkRB (jn := 0) hoff ⟨hR.1, hR.2.1⟩ (by decide) (by have := hR.2.2.1; omega))) ?_
      rintro v h L ⟨r1, r2, r3, r4⟩
      exact ⟨r1, r2, r3, _, r4, own_fin31 hoff hR hf⟩
    · refine own_mono (rm_wr1 l Z a0 hw ws pk ce io off pw kc kp ko (3 : Int32) (2 : Int32) md bb f own_z h0 n0 Z0 H0 H1 H2 H3 H4 H5 g_io ne_pk_io ne_ce_io ne_pw_io (by decide) (by decide) (by decide) (own_mkRA (by decide)) (own_mkRB (jn := 0) hoff ⟨hR.1, hR.2.1⟩ (by decide) (by have := hR.2.2.1; omega))) ?_
      rintro v h L ⟨r1, r2, r3, r4⟩
      exact ⟨r1, r2, r3, _, r4, own_fin32 hoff hR hf⟩
    · refine own_mono (rm_wr1 l Z a0 hw ws pk ce io off pw kc kp ko (3 : Int32) (3 : Int32) md bb f own_z h0 n0 Z0 H0 H1 H2 H3 H4 H5 g_io ne_pk_io ne_ce_io ne_pw_io (by decide) (by decide) (by decide) (own_mkRA (by decide)) (own_mkRB (jn := 0) hoff ⟨hR.1, hR.2.1⟩ (by decide) (by have := hR.2.2.1; omega))) ?_
      rintro v h L ⟨r1, r2, r3, r4⟩
      exact ⟨r1, r2, r3, _, r4, own_fin33 hoff hR hf⟩
    · refine own_mono (rm_wr2 l Z a0 hw ws pk ce io off pw kc kp ko (3 : Int32) (4 : Int32) md bb f own_z h0 n0 Z0 H0 H1 H2 H3 H4 H5 g_io ne_pk_io ne_ce_io ne_pw_io (by decide) (by decide) (by decide) (by decide) (own_mkRA (by decide)) (own_mkRB (jn := 0) hoff ⟨hR.1, hR.2.1⟩ (by decide) (by have := hR.2.2.1; omega)) (own_mkRA (by decide)) (own_mkRB (jn := 1) hoff ⟨hR.1, hR.2.1⟩ (by decide) (by have := hR.2.2.1; omega))) ?_
      rintro v h L ⟨r1, r2, r3, r4⟩
      exact ⟨r1, r2, r3, _, r4, own_fin34 hoff hR hf⟩
  · rcases hn with rfl | rfl | rfl | rfl | rfl
    · refine own_mono (rm_wr0 l Z a0 hw ws pk ce io off pw kc kp ko (5 : Int32) (0 : Int32) md bb f own_z h0 n0 Z0 H0 H1 H2 H3 H4 H5 g_io ne_pk_io ne_ce_io ne_pw_io (by decide) (by decide) ) ?_
      rintro v h L ⟨r1, r2, r3, r4⟩
      exact ⟨r1, r2, r3, _, r4, own_fin50 hoff hR hf⟩
    · refine own_mono (rm_wr1 l Z a0 hw ws pk ce io off pw kc kp ko (5 : Int32) (1 : Int32) md bb f own_z h0 n0 Z0 H0 H1 H2 H3 H4 H5 g_io ne_pk_io ne_ce_io ne_pw_io (by decide) (by decide) (by decide) (own_mkRA (by decide)) (own_mkRB (jn := 0) hoff ⟨hR.1, hR.2.1⟩ (by decide) (by have := hR.2.2.1; omega))) ?_
      rintro v h L ⟨r1, r2, r3, r4⟩
      exact ⟨r1, r2, r3, _, r4, own_fin51 hoff hR hf⟩
    · refine own_mono (rm_wr1 l Z a0 hw ws pk ce io off pw kc kp ko (5 : Int32) (2 : Int32) md bb f own_z h0 n0 Z0 H0 H1 H2 H3 H4 H5 g_io ne_pk_io ne_ce_io ne_pw_io (by decide) (by decide) (by decide) (own_mkRA (by decide)) (own_mkRB (jn := 0) hoff ⟨hR.1, hR.2.1⟩ (by decide) (by have := hR.2.2.1; omega))) ?_
      rintro v h L ⟨r1, r2, r3, r4⟩
      exact ⟨r1, r2, r3, _, r4, own_fin52 hoff hR hf⟩
    · refine own_mono (rm_wr1 l Z a0 hw ws pk ce io off pw kc kp ko (5 : Int32) (3 : Int32) md bb f own_z h0 n0 Z0 H0 H1 H2 H3 H4 H5 g_io ne_pk_io ne_ce_io ne_pw_io (by decide) (by decide) (by decide) (own_mkRA (by decide)) (own_mkRB (jn := 0) hoff ⟨hR.1, hR.2.1⟩ (by decide) (by have := hR.2.2.1; omega))) ?_
      rintro v h L ⟨r1, r2, r3, r4⟩
      exact ⟨r1, r2, r3, _, r4, own_fin53 hoff hR hf⟩
    · refine own_mono (rm_wr1 l Z a0 hw ws pk ce io off pw kc kp ko (5 : Int32) (4 : Int32) md bb f own_z h0 n0 Z0 H0 H1 H2 H3 H4 H5 g_io ne_pk_io ne_ce_io ne_pw_io (by decide) (by decide) (by decide) (own_mkRA (by decide)) (own_mkRB (jn := 0) hoff ⟨hR.1, hR.2.1⟩ (by decide) (by have := hR.2.2.1; omega))) ?_
      rintro v h L ⟨r1, r2, r3, r4⟩
      exact ⟨r1, r2, r3, _, r4, own_fin54 hoff hR hf⟩
theorem pd_4 : parseMethodDescriptor "([I[BI)V" = some ⟨[(.array .int), (.array .byte), .int], none⟩ := by decide +kernel
theorem pd_5 : parseMethodDescriptor "([III[J)J" = some ⟨[(.array .int), .int, .int, (.array .long)], some .long⟩ := by decide +kernel
theorem pd_6 : parseMethodDescriptor "(JIII)J" = some ⟨[.long, .int, .int, .int], some .long⟩ := by decide +kernel
theorem pd_7 : parseMethodDescriptor "([BIJ)Z" = some ⟨[(.array .byte), .int, .long], some .boolean⟩ := by decide +kernel
set_option maxRecDepth 65536 in
set_option maxHeartbeats 40000000 in
theorem own_tail {p : Program} {l : Launch} {e : Env} {s : State} {m : MethodId} {args : Array Value} {below : List Frame} {meth : Method} {c : Code} {T0 : State} {locs : List Loc} {Z : State} {a0 : Array Value} {hA : Heap} {n0 : Nat} (p0 p1 p2 p3 p4 kk off n md g bb : Int32) (pk ce pw : Addr) (kc kp : ClassId) (f : Int32 → Int32)
    (hx : p.tables.exec = Jvm.exec) (hw : ∀ d ∈ tables_1, d.before a0 Z = true) (hby : c.code = code) (hml : c.maxLocals = 18) (hret : meth.sig.returnType = ret) (hlk : meth.locks = false) (hZ : Z.Warmed39 s.vm) (hown : s.vm.findClass "com/example/known_leaks/knownleaks/CellPackingWritePinLaw" = some m.cls) (X0 : Stand p l e room_1 s m args below meth c T0 locs 3 24) (e0 : T0.heap = hA) (N0 : Fr n0 locs) (Z0 : n0 ≤ hA.size) (B0 : Exa Z hA pk "com/example/known_leaks/knownleaks/CellPacking") (B1 : Fld Z hA pk "com/example/known_leaks/knownleaks/CellPacking" "powers" "[J" (.ref pw)) (B2 : Fld Z hA pk "com/example/known_leaks/knownleaks/CellPacking" "cellsPerBlock" "I" (.int g)) (B3 : Fld Z hA pk "com/example/known_leaks/knownleaks/CellPacking" "blockBits" "I" (.int bb)) (B4 : Arv Z hA pw kp .long g (own_P md) (.long (0 : Int64))) (B5 : Arv Z hA ce kc .int n (own_C f) (.int 0)) (hok : own_OK g md bb) (hoff : 0 ≤ off.toInt ∧ off.toInt ≤ 3) (hn : n = (0 : Int32) ∨ n = (1 : Int32) ∨ n = (2 : Int32) ∨ n = (3 : Int32) ∨ n = (4 : Int32)) (hf : own_F f n md) (hn4 : ∀ x : Int32, x < n → x < 4) :
    Wp p e below (fun o s₂ => ∃ v L, o = .returned v ∧ QL n0 v s₂.heap L ∧ FrameEnd s o s₂ L 24 128) (T0.setTop (mkF m 268 #[.val (.int p0), .val (.int p1), .val (.int p2), .val (.int p3), .val (.int p4), .val (.int kk), .val (.int off), .val (.int n), .val (.int md), .val (.int g), .val (.int bb), .val (.ref pk), .val (.ref ce), .unset, .unset, .unset, .unset, .unset] [])) := by
  refine Wp.back (U' := (T0.setTop (mkF m 270 #[.val (.int p0), .val (.int p1), .val (.int p2), .val (.int p3), .val (.int p4), .val (.int kk), .val (.int off), .val (.int n), .val (.int md), .val (.int g), .val (.int bb), .val (.ref pk), .val (.ref ce), .unset, .unset, .unset, .unset, .unset] [(.int 9)]))) (fun t k => XT.bipushV X0.here hx rfl 9 (hb hby at_268) (by decide) k) ?_
  obtain ⟨T1, h1, k1, X1, e1, E1, A1, st1⟩ := newP X0 hx hZ (ow hw 33 rfl) e0 (g := (mkF m 270 #[.val (.int p0), .val (.int p1), .val (.int p2), .val (.int p3), .val (.int p4), .val (.int kk), .val (.int off), .val (.int n), .val (.int md), .val (.int g), .val (.int bb), .val (.ref pk), .val (.ref ce), .unset, .unset, .unset, .unset, .unset] [(.int 9)])) rfl (hb hby at_270) rfl (by decide) (cap := 9) (by decide) (by decide) (by decide) (by decide)
  obtain ⟨b1, g1⟩ : ∃ z, z = hA.size := ⟨_, rfl⟩
  rw [← g1] at A1 st1
  have ne_pk_b1 : pk ≠ b1 := Nat.ne_of_lt (Nat.lt_of_lt_of_le B0.lt (Nat.le_of_eq g1.symm))
  have ne_pw_b1 : pw ≠ b1 := Nat.ne_of_lt (Nat.lt_of_lt_of_le B4.lt (Nat.le_of_eq g1.symm))
  have ne_ce_b1 : ce ≠ b1 := Nat.ne_of_lt (Nat.lt_of_lt_of_le B5.lt (Nat.le_of_eq g1.symm))
  have g_b1 : n0 ≤ b1 := Nat.le_trans Z0 (Nat.le_of_eq g1.symm)
  have f2_0 := Nat.le_trans Z0 E1.1
  have f2_1 := B0.ext E1
  have f2_2 := B1.ext E1
  have f2_3 := B2.ext E1
  have f2_4 := B3.ext E1
  have f2_5 := B4.ext E1
  have f2_6 := B5.ext E1
  have V1 : Arv Z h1 b1 k1 .byte (9 : Int32) [(.int 0), (.int 0), (.int 0), (.int 0), (.int 0), (.int 0), (.int 0), (.int 0), (.int 0)] (.int 0) := (Arv.new A1 (by decide)).pad (pad_rep [] (.int 0) 9)
  refine Wp.back (U' := (T1.setTop (mkF m 272 #[.val (.int p0), .val (.int p1), .val (.int p2), .val (.int p3), .val (.int p4), .val (.int kk), .val (.int off), .val (.int n), .val (.int md), .val (.int g), .val (.int bb), .val (.ref pk), .val (.ref ce), .unset, .unset, .unset, .unset, .unset] [(.ref b1)]))) st1 ?_
  refine Wp.back (U' := (T1.setTop (mkF m 274 #[.val (.int p0), .val (.int p1), .val (.int p2), .val (.int p3), .val (.int p4), .val (.int kk), .val (.int off), .val (.int n), .val (.int md), .val (.int g), .val (.int bb), .val (.ref pk), .val (.ref ce), .val (.ref b1), .unset, .unset, .unset, .unset] []))) (fun t k => XS.astore X1.here hx rfl (hb hby at_272) rfl rfl (l' := #[.val (.int p0), .val (.int p1), .val (.int p2), .val (.int p3), .val (.int p4), .val (.int kk), .val (.int off), .val (.int n), .val (.int md), .val (.int g), .val (.int bb), .val (.ref pk), .val (.ref ce), .val (.ref b1), .unset, .unset, .unset, .unset]) rfl k) ?_
  have Vz : Arv Z h1 b1 k1 .byte (9 : Int32) (own_L own_z) (.int 0) := V1
  refine Wp.back (U' := (T1.setTop (mkF m 282 #[.val (.int p0), .val (.int p1), .val (.int p2), .val (.int p3), .val (.int p4), .val (.int kk), .val (.int off), .val (.int n), .val (.int md), .val (.int g), .val (.int bb), .val (.ref pk), .val (.ref ce), .val (.ref b1), .unset, .unset, .unset, .unset] [(.int off), (.ref b1), (.ref ce), (.ref pk)]))) (fun t k => XS.aload X1.here hx rfl (hb hby at_274) rfl rfl (XS.aload X1.here hx rfl (hb hby at_276) rfl rfl (XS.aload X1.here hx rfl (hb hby at_278) rfl rfl (XS.iload X1.here hx rfl (hb hby at_280) rfl k)))) ?_
  obtain ⟨cq3, kq3, q3a, q3b, q3c⟩ := isOf hZ e1 f2_1
  obtain ⟨_, _, ⟨T3, L3, k3, n3⟩, -, X3, ⟨Lc3, hQ3, l3, y3, z3⟩, st3⟩ := X1.virtualBack hx (y := Y5) (z := Y5) hown (mvT hZ (ow hw 34 rfl)) (mvT hZ (ow hw 35 rfl)) (notFace_of_selects (args := #[]) (mvT hZ (ow hw 37 rfl))) (mvT hZ (ow hw 37 rfl)) (mvT hZ (ow hw 36 rfl)) (by decide) (backOf (W := 0) (rm_wr l Z a0 hw [] pk ce b1 off pw kc kp k1 g n md bb f h1 n0 f2_0 f2_2 f2_3 f2_4 f2_6 f2_5 Vz g_b1 ne_pk_b1 ne_ce_b1 ne_pw_b1 hok hn hoff hf) hZ (ow hw 38 rfl) (ow hw 6 rfl) (by decide) (by decide)) q3a q3c (g := (mkF m 282 #[.val (.int p0), .val (.int p1), .val (.int p2), .val (.int p3), .val (.int p4), .val (.int kk), .val (.int off), .val (.int n), .val (.int md), .val (.int g), .val (.int bb), .val (.ref pk), .val (.ref ce), .val (.ref b1), .unset, .unset, .unset, .unset] [(.int off), (.ref b1), (.ref ce), (.ref pk)])) rfl (by rw [hml]; rfl) (Steps.refl _) (argsL := [(.ref ce), (.ref b1), (.int off)]) (rest := []) (lenOf pd_4 rfl) rfl (Nat.le_of_eq rfl) (hb hby at_282) (fun _ _ => ⟨rfl, e1, (by decide : 4 + 0 ≤ _), (by decide : 33 + 0 ≤ _)⟩)
  dsimp only [Pt.U, Pt.locs, Pt.cells, Pt.slots] at X3 l3 y3 z3 st3 hQ3
  subst l3 y3 z3
  obtain ⟨rfl, N3q, K3, fB, oV3, oI⟩ := hQ3
  have f4_0 := Nat.le_trans f2_0 K3.1
  have f4_1 := f2_1.keep K3
  have f4_2 := f2_2.keep K3 (ninS ne_pk_b1 nin0)
  have f4_3 := f2_3.keep K3 (ninS ne_pk_b1 nin0)
  have f4_4 := f2_4.keep K3 (ninS ne_pk_b1 nin0)
  have f4_5 := f2_5.keep K3 (ninS ne_pw_b1 nin0)
  have f4_6 := f2_6.keep K3 (ninS ne_ce_b1 nin0)
  have N3 := Fr.app N0 N3q
  refine Wp.back (U' := (T3.setTop (mkF m 285 #[.val (.int p0), .val (.int p1), .val (.int p2), .val (.int p3), .val (.int p4), .val (.int kk), .val (.int off), .val (.int n), .val (.int md), .val (.int g), .val (.int bb), .val (.ref pk), .val (.ref ce), .val (.ref b1), .unset, .unset, .unset, .unset] []))) (fun t k => st3.trans k) ?_
  refine Wp.back (U' := (T3.setTop (mkF m 286 #[.val (.int p0), .val (.int p1), .val (.int p2), .val (.int p3), .val (.int p4), .val (.int kk), .val (.int off), .val (.int n), .val (.int md), .val (.int g), .val (.int bb), .val (.ref pk), .val (.ref ce), .val (.ref b1), .unset, .unset, .unset, .unset] [(.int 5)]))) (fun t k => XT.iconstV X3.here hx rfl 5 (hb hby at_285) (by decide) k) ?_
  obtain ⟨T5, h5, k5, X5, e5, E5, A5, st5⟩ := newP X3 hx hZ (ow hw 13 rfl) rfl (g := (mkF m 286 #[.val (.int p0), .val (.int p1), .val (.int p2), .val (.int p3), .val (.int p4), .val (.int kk), .val (.int off), .val (.int n), .val (.int md), .val (.int g), .val (.int bb), .val (.ref pk), .val (.ref ce), .val (.ref b1), .unset, .unset, .unset, .unset] [(.int 5)])) rfl (hb hby at_286) rfl (by decide) (cap := 5) (by decide) (by decide) (by decide) (by decide)
  obtain ⟨b5, g5⟩ : ∃ z, z = T3.heap.size := ⟨_, rfl⟩
  rw [← g5] at A5 st5
  have ne_pk_b5 : pk ≠ b5 := Nat.ne_of_lt (Nat.lt_of_lt_of_le f4_1.lt (Nat.le_of_eq g5.symm))
  have ne_pw_b5 : pw ≠ b5 := Nat.ne_of_lt (Nat.lt_of_lt_of_le f4_5.lt (Nat.le_of_eq g5.symm))
  have ne_ce_b5 : ce ≠ b5 := Nat.ne_of_lt (Nat.lt_of_lt_of_le f4_6.lt (Nat.le_of_eq g5.symm))
  have ne_b1_b5 : b1 ≠ b5 := Nat.ne_of_lt (Nat.lt_of_lt_of_le oV3.lt (Nat.le_of_eq g5.symm))
  have g_b5 : n0 ≤ b5 := Nat.le_trans f4_0 (Nat.le_of_eq g5.symm)
  have f6_0 := Nat.le_trans f4_0 E5.1
  have f6_1 := f4_1.ext E5
  have f6_2 := f4_2.ext E5
  have f6_3 := f4_3.ext E5
  have f6_4 := f4_4.ext E5
  have f6_5 := f4_5.ext E5
  have f6_6 := f4_6.ext E5
  have f6_7 := oV3.ext E5
  have V5 : Arv Z h5 b5 k5 .long (5 : Int32) [(.long (0 : Int64)), (.long (0 : Int64)), (.long (0 : Int64)), (.long (0 : Int64)), (.long (0 : Int64))] (.long (0 : Int64)) := (Arv.new A5 (by decide)).pad (pad_rep [] (.long (0 : Int64)) 5)
  refine Wp.back (U' := (T5.setTop (mkF m 288 #[.val (.int p0), .val (.int p1), .val (.int p2), .val (.int p3), .val (.int p4), .val (.int kk), .val (.int off), .val (.int n), .val (.int md), .val (.int g), .val (.int bb), .val (.ref pk), .val (.ref ce), .val (.ref b1), .unset, .unset, .unset, .unset] [(.ref b5)]))) st5 ?_
  refine Wp.back (U' := (T5.setTop (mkF m 294 #[.val (.int p0), .val (.int p1), .val (.int p2), .val (.int p3), .val (.int p4), .val (.int kk), .val (.int off), .val (.int n), .val (.int md), .val (.int g), .val (.int bb), .val (.ref pk), .val (.ref ce), .val (.ref b1), .val (.ref b5), .unset, .unset, .unset] [(.long (1 : Int64)), (.int 0), (.ref b5)]))) (fun t k => XS.astore X5.here hx rfl (hb hby at_288) rfl rfl (l' := #[.val (.int p0), .val (.int p1), .val (.int p2), .val (.int p3), .val (.int p4), .val (.int kk), .val (.int off), .val (.int n), .val (.int md), .val (.int g), .val (.int bb), .val (.ref pk), .val (.ref ce), .val (.ref b1), .val (.ref b5), .unset, .unset, .unset]) rfl (XS.aload X5.here hx rfl (hb hby at_290) rfl rfl (XT.iconstV X5.here hx rfl 0 (hb hby at_292) (by decide) (XT.lconstV X5.here hx rfl (1 : Int64) (hb hby at_293) (by decide) k)))) ?_
  have vq7 := V5
  obtain ⟨cl7, Ar7, qa7, qs7, qn7, qh7, qg7⟩ := vq7
  have hin7 : ¬ ((0 : Int32) < 0 ∨ cl7.slots.size ≤ ((0 : Int32)).toNatClampNeg) := inb_of qs7 ⟨by decide, by decide⟩
  obtain ⟨T7, h7, X7, e7, W7, st7⟩ := stJ X5 hx hZ e5 Ar7 (j := (0 : Int32)) hin7 (g := (mkF m 294 #[.val (.int p0), .val (.int p1), .val (.int p2), .val (.int p3), .val (.int p4), .val (.int kk), .val (.int off), .val (.int n), .val (.int md), .val (.int g), .val (.int bb), .val (.ref pk), .val (.ref ce), .val (.ref b1), .val (.ref b5), .unset, .unset, .unset] [(.long (1 : Int64)), (.int 0), (.ref b5)])) rfl rfl (hb hby at_294)
  have V7 : Arv Z h7 b5 k5 .long (5 : Int32) [(.long (1 : Int64)), (.long (0 : Int64)), (.long (0 : Int64)), (.long (0 : Int64)), (.long (0 : Int64))] (.long (0 : Int64)) := Arv.set Ar7 qa7 qs7 qn7 qh7 qg7 rfl W7 0 rfl (Nat.le_of_ble_eq_true rfl)
  have f8_0 := Nat.le_trans f6_0 (Keep.of_wr W7).1
  have f8_1 := f6_1.wr W7
  have f8_2 := f6_2.other W7 (Or.inl ne_pk_b5)
  have f8_3 := f6_3.other W7 (Or.inl ne_pk_b5)
  have f8_4 := f6_4.other W7 (Or.inl ne_pk_b5)
  have f8_5 := f6_5.other W7 ne_pw_b5
  have f8_6 := f6_6.other W7 ne_ce_b5
  have f8_7 := f6_7.other W7 ne_b1_b5
  have N7 := Fr.snoc X7 N3 g_b5
  refine Wp.back (U' := (T7.setTop (mkF m 295 #[.val (.int p0), .val (.int p1), .val (.int p2), .val (.int p3), .val (.int p4), .val (.int kk), .val (.int off), .val (.int n), .val (.int md), .val (.int g), .val (.int bb), .val (.ref pk), .val (.ref ce), .val (.ref b1), .val (.ref b5), .unset, .unset, .unset] []))) st7 ?_
  refine Wp.back (U' := (T7.setTop (mkF m 301 #[.val (.int p0), .val (.int p1), .val (.int p2), .val (.int p3), .val (.int p4), .val (.int kk), .val (.int off), .val (.int n), .val (.int md), .val (.int g), .val (.int bb), .val (.ref pk), .val (.ref ce), .val (.ref b1), .val (.ref b5), .unset, .unset, .unset] [(.long (md).toInt64), (.int 1), (.ref b5)]))) (fun t k => XS.aload X7.here hx rfl (hb hby at_295) rfl rfl (XT.iconstV X7.here hx rfl 1 (hb hby at_297) (by decide) (XS.iload X7.here hx rfl (hb hby at_298) rfl (XS.i2l X7.here hx rfl (hb hby at_300) rfl k)))) ?_
  have vq9 := V7
  obtain ⟨cl9, Ar9, qa9, qs9, qn9, qh9, qg9⟩ := vq9
  have hin9 : ¬ ((1 : Int32) < 0 ∨ cl9.slots.size ≤ ((1 : Int32)).toNatClampNeg) := inb_of qs9 ⟨by decide, by decide⟩
  obtain ⟨T9, h9, X9, e9, W9, st9⟩ := stJ X7 hx hZ e7 Ar9 (j := (1 : Int32)) hin9 (g := (mkF m 301 #[.val (.int p0), .val (.int p1), .val (.int p2), .val (.int p3), .val (.int p4), .val (.int kk), .val (.int off), .val (.int n), .val (.int md), .val (.int g), .val (.int bb), .val (.ref pk), .val (.ref ce), .val (.ref b1), .val (.ref b5), .unset, .unset, .unset] [(.long (md).toInt64), (.int 1), (.ref b5)])) rfl rfl (hb hby at_301)
  have V9 : Arv Z h9 b5 k5 .long (5 : Int32) [(.long (1 : Int64)), (.long (md).toInt64), (.long (0 : Int64)), (.long (0 : Int64)), (.long (0 : Int64))] (.long (0 : Int64)) := Arv.set Ar9 qa9 qs9 qn9 qh9 qg9 rfl W9 1 rfl (Nat.le_of_ble_eq_true rfl)
  have f10_0 := Nat.le_trans f8_0 (Keep.of_wr W9).1
  have f10_1 := f8_1.wr W9
  have f10_2 := f8_2.other W9 (Or.inl ne_pk_b5)
  have f10_3 := f8_3.other W9 (Or.inl ne_pk_b5)
  have f10_4 := f8_4.other W9 (Or.inl ne_pk_b5)
  have f10_5 := f8_5.other W9 ne_pw_b5
  have f10_6 := f8_6.other W9 ne_ce_b5
  have f10_7 := f8_7.other W9 ne_b1_b5
  have N9 := Fr.snoc X9 N7 g_b5
  refine Wp.back (U' := (T9.setTop (mkF m 302 #[.val (.int p0), .val (.int p1), .val (.int p2), .val (.int p3), .val (.int p4), .val (.int kk), .val (.int off), .val (.int n), .val (.int md), .val (.int g), .val (.int bb), .val (.ref pk), .val (.ref ce), .val (.ref b1), .val (.ref b5), .unset, .unset, .unset] []))) st9 ?_
  refine Wp.back (U' := (T9.setTop (mkF m 312 #[.val (.int p0), .val (.int p1), .val (.int p2), .val (.int p3), .val (.int p4), .val (.int kk), .val (.int off), .val (.int n), .val (.int md), .val (.int g), .val (.int bb), .val (.ref pk), .val (.ref ce), .val (.ref b1), .val (.ref b5), .unset, .unset, .unset] [(.long ((md).toInt64 * (md).toInt64)), (.int 2), (.ref b5)]))) (fun t k => XS.aload X9.here hx rfl (hb hby at_302) rfl rfl (XT.iconstV X9.here hx rfl 2 (hb hby at_304) (by decide) (XS.iload X9.here hx rfl (hb hby at_305) rfl (XS.i2l X9.here hx rfl (hb hby at_307) rfl (XS.iload X9.here hx rfl (hb hby at_308) rfl (XS.i2l X9.here hx rfl (hb hby at_310) rfl (XS.lmul X9.here hx rfl (hb hby at_311) rfl k))))))) ?_
  have vq11 := V9
  obtain ⟨cl11, Ar11, qa11, qs11, qn11, qh11, qg11⟩ := vq11
  have hin11 : ¬ ((2 : Int32) < 0 ∨ cl11.slots.size ≤ ((2 : Int32)).toNatClampNeg) := inb_of qs11 ⟨by decide, by decide⟩
  obtain ⟨T11, h11, X11, e11, W11, st11⟩ := stJ X9 hx hZ e9 Ar11 (j := (2 : Int32)) hin11 (g := (mkF m 312 #[.val (.int p0), .val (.int p1), .val (.int p2), .val (.int p3), .val (.int p4), .val (.int kk), .val (.int off), .val (.int n), .val (.int md), .val (.int g), .val (.int bb), .val (.ref pk), .val (.ref ce), .val (.ref b1), .val (.ref b5), .unset, .unset, .unset] [(.long ((md).toInt64 * (md).toInt64)), (.int 2), (.ref b5)])) rfl rfl (hb hby at_312)
  have V11 : Arv Z h11 b5 k5 .long (5 : Int32) [(.long (1 : Int64)), (.long (md).toInt64), (.long ((md).toInt64 * (md).toInt64)), (.long (0 : Int64)), (.long (0 : Int64))] (.long (0 : Int64)) := Arv.set Ar11 qa11 qs11 qn11 qh11 qg11 rfl W11 2 rfl (Nat.le_of_ble_eq_true rfl)
  have f12_0 := Nat.le_trans f10_0 (Keep.of_wr W11).1
  have f12_1 := f10_1.wr W11
  have f12_2 := f10_2.other W11 (Or.inl ne_pk_b5)
  have f12_3 := f10_3.other W11 (Or.inl ne_pk_b5)
  have f12_4 := f10_4.other W11 (Or.inl ne_pk_b5)
  have f12_5 := f10_5.other W11 ne_pw_b5
  have f12_6 := f10_6.other W11 ne_ce_b5
  have f12_7 := f10_7.other W11 ne_b1_b5
  have N11 := Fr.snoc X11 N9 g_b5
  refine Wp.back (U' := (T11.setTop (mkF m 313 #[.val (.int p0), .val (.int p1), .val (.int p2), .val (.int p3), .val (.int p4), .val (.int kk), .val (.int off), .val (.int n), .val (.int md), .val (.int g), .val (.int bb), .val (.ref pk), .val (.ref ce), .val (.ref b1), .val (.ref b5), .unset, .unset, .unset] []))) st11 ?_
  refine Wp.back (U' := (T11.setTop (mkF m 319 #[.val (.int p0), .val (.int p1), .val (.int p2), .val (.int p3), .val (.int p4), .val (.int kk), .val (.int off), .val (.int n), .val (.int md), .val (.int g), .val (.int bb), .val (.ref pk), .val (.ref ce), .val (.ref b1), .val (.ref b5), .unset, .unset, .unset] [(.int 2), (.ref b5), (.int 3), (.ref b5)]))) (fun t k => XS.aload X11.here hx rfl (hb hby at_313) rfl rfl (XT.iconstV X11.here hx rfl 3 (hb hby at_315) (by decide) (XS.aload X11.here hx rfl (hb hby at_316) rfl rfl (XT.iconstV X11.here hx rfl 2 (hb hby at_318) (by decide) k)))) ?_
  have vq13 := V11
  obtain ⟨cl13, Ar13, qa13, qs13, qn13, qh13, qg13⟩ := vq13
  have hin13 : ¬ ((2 : Int32) < 0 ∨ cl13.slots.size ≤ ((2 : Int32)).toNatClampNeg) := inb_of qs13 ⟨by decide, by decide⟩
  have hat13 : cl13.slots[((2 : Int32)).toNatClampNeg]? = some (.long ((md).toInt64 * (md).toInt64)) := Has.at qh13 hin13 rfl
  refine Wp.back (U' := (T11.setTop (mkF m 320 #[.val (.int p0), .val (.int p1), .val (.int p2), .val (.int p3), .val (.int p4), .val (.int kk), .val (.int off), .val (.int n), .val (.int md), .val (.int g), .val (.int bb), .val (.ref pk), .val (.ref ce), .val (.ref b1), .val (.ref b5), .unset, .unset, .unset] [(.long ((md).toInt64 * (md).toInt64)), (.int 3), (.ref b5)]))) (fun t k => X11.laload hx (j := (2 : Int32)) (v := (.long ((md).toInt64 * (md).toInt64))) (by rw [e11]; exact Ar13.1) (State.isArrayOf_alike hZ.alike Ar13.2.1) Ar13.2.2 hin13 hat13 (g := (mkF m 319 #[.val (.int p0), .val (.int p1), .val (.int p2), .val (.int p3), .val (.int p4), .val (.int kk), .val (.int off), .val (.int n), .val (.int md), .val (.int g), .val (.int bb), .val (.ref pk), .val (.ref ce), .val (.ref b1), .val (.ref b5), .unset, .unset, .unset] [(.int 2), (.ref b5), (.int 3), (.ref b5)])) rfl rfl (hb hby at_319) t k) ?_
  refine Wp.back (U' := (T11.setTop (mkF m 324 #[.val (.int p0), .val (.int p1), .val (.int p2), .val (.int p3), .val (.int p4), .val (.int kk), .val (.int off), .val (.int n), .val (.int md), .val (.int g), .val (.int bb), .val (.ref pk), .val (.ref ce), .val (.ref b1), .val (.ref b5), .unset, .unset, .unset] [(.long (((md).toInt64 * (md).toInt64) * (md).toInt64)), (.int 3), (.ref b5)]))) (fun t k => XS.iload X11.here hx rfl (hb hby at_320) rfl (XS.i2l X11.here hx rfl (hb hby at_322) rfl (XS.lmul X11.here hx rfl (hb hby at_323) rfl k))) ?_
  have vq14 := V11
  obtain ⟨cl14, Ar14, qa14, qs14, qn14, qh14, qg14⟩ := vq14
  have hin14 : ¬ ((3 : Int32) < 0 ∨ cl14.slots.size ≤ ((3 : Int32)).toNatClampNeg) := inb_of qs14 ⟨by decide, by decide⟩
  obtain ⟨T14, h14, X14, e14, W14, st14⟩ := stJ X11 hx hZ e11 Ar14 (j := (3 : Int32)) hin14 (g := (mkF m 324 #[.val (.int p0), .val (.int p1), .val (.int p2), .val (.int p3), .val (.int p4), .val (.int kk), .val (.int off), .val (.int n), .val (.int md), .val (.int g), .val (.int bb), .val (.ref pk), .val (.ref ce), .val (.ref b1), .val (.ref b5), .unset, .unset, .unset] [(.long (((md).toInt64 * (md).toInt64) * (md).toInt64)), (.int 3), (.ref b5)])) rfl rfl (hb hby at_324)
  have V14 : Arv Z h14 b5 k5 .long (5 : Int32) [(.long (1 : Int64)), (.long (md).toInt64), (.long ((md).toInt64 * (md).toInt64)), (.long (((md).toInt64 * (md).toInt64) * (md).toInt64)), (.long (0 : Int64))] (.long (0 : Int64)) := Arv.set Ar14 qa14 qs14 qn14 qh14 qg14 rfl W14 3 rfl (Nat.le_of_ble_eq_true rfl)
  have f15_0 := Nat.le_trans f12_0 (Keep.of_wr W14).1
  have f15_1 := f12_1.wr W14
  have f15_2 := f12_2.other W14 (Or.inl ne_pk_b5)
  have f15_3 := f12_3.other W14 (Or.inl ne_pk_b5)
  have f15_4 := f12_4.other W14 (Or.inl ne_pk_b5)
  have f15_5 := f12_5.other W14 ne_pw_b5
  have f15_6 := f12_6.other W14 ne_ce_b5
  have f15_7 := f12_7.other W14 ne_b1_b5
  have N14 := Fr.snoc X14 N11 g_b5
  refine Wp.back (U' := (T14.setTop (mkF m 325 #[.val (.int p0), .val (.int p1), .val (.int p2), .val (.int p3), .val (.int p4), .val (.int kk), .val (.int off), .val (.int n), .val (.int md), .val (.int g), .val (.int bb), .val (.ref pk), .val (.ref ce), .val (.ref b1), .val (.ref b5), .unset, .unset, .unset] []))) st14 ?_
  refine Wp.back (U' := (T14.setTop (mkF m 331 #[.val (.int p0), .val (.int p1), .val (.int p2), .val (.int p3), .val (.int p4), .val (.int kk), .val (.int off), .val (.int n), .val (.int md), .val (.int g), .val (.int bb), .val (.ref pk), .val (.ref ce), .val (.ref b1), .val (.ref b5), .unset, .unset, .unset] [(.int 3), (.ref b5), (.int 4), (.ref b5)]))) (fun t k => XS.aload X14.here hx rfl (hb hby at_325) rfl rfl (XT.iconstV X14.here hx rfl 4 (hb hby at_327) (by decide) (XS.aload X14.here hx rfl (hb hby at_328) rfl rfl (XT.iconstV X14.here hx rfl 3 (hb hby at_330) (by decide) k)))) ?_
  have vq16 := V14
  obtain ⟨cl16, Ar16, qa16, qs16, qn16, qh16, qg16⟩ := vq16
  have hin16 : ¬ ((3 : Int32) < 0 ∨ cl16.slots.size ≤ ((3 : Int32)).toNatClampNeg) := inb_of qs16 ⟨by decide, by decide⟩
  have hat16 : cl16.slots[((3 : Int32)).toNatClampNeg]? = some (.long (((md).toInt64 * (md).toInt64) * (md).toInt64)) := Has.at qh16 hin16 rfl
  refine Wp.back (U' := (T14.setTop (mkF m 332 #[.val (.int p0), .val (.int p1), .val (.int p2), .val (.int p3), .val (.int p4), .val (.int kk), .val (.int off), .val (.int n), .val (.int md), .val (.int g), .val (.int bb), .val (.ref pk), .val (.ref ce), .val (.ref b1), .val (.ref b5), .unset, .unset, .unset] [(.long (((md).toInt64 * (md).toInt64) * (md).toInt64)), (.int 4), (.ref b5)]))) (fun t k => X14.laload hx (j := (3 : Int32)) (v := (.long (((md).toInt64 * (md).toInt64) * (md).toInt64))) (by rw [e14]; exact Ar16.1) (State.isArrayOf_alike hZ.alike Ar16.2.1) Ar16.2.2 hin16 hat16 (g := (mkF m 331 #[.val (.int p0), .val (.int p1), .val (.int p2), .val (.int p3), .val (.int p4), .val (.int kk), .val (.int off), .val (.int n), .val (.int md), .val (.int g), .val (.int bb), .val (.ref pk), .val (.ref ce), .val (.ref b1), .val (.ref b5), .unset, .unset, .unset] [(.int 3), (.ref b5), (.int 4), (.ref b5)])) rfl rfl (hb hby at_331) t k) ?_
  refine Wp.back (U' := (T14.setTop (mkF m 336 #[.val (.int p0), .val (.int p1), .val (.int p2), .val (.int p3), .val (.int p4), .val (.int kk), .val (.int off), .val (.int n), .val (.int md), .val (.int g), .val (.int bb), .val (.ref pk), .val (.ref ce), .val (.ref b1), .val (.ref b5), .unset, .unset, .unset] [(.long ((((md).toInt64 * (md).toInt64) * (md).toInt64) * (md).toInt64)), (.int 4), (.ref b5)]))) (fun t k => XS.iload X14.here hx rfl (hb hby at_332) rfl (XS.i2l X14.here hx rfl (hb hby at_334) rfl (XS.lmul X14.here hx rfl (hb hby at_335) rfl k))) ?_
  have vq17 := V14
  obtain ⟨cl17, Ar17, qa17, qs17, qn17, qh17, qg17⟩ := vq17
  have hin17 : ¬ ((4 : Int32) < 0 ∨ cl17.slots.size ≤ ((4 : Int32)).toNatClampNeg) := inb_of qs17 ⟨by decide, by decide⟩
  obtain ⟨T17, h17, X17, e17, W17, st17⟩ := stJ X14 hx hZ e14 Ar17 (j := (4 : Int32)) hin17 (g := (mkF m 336 #[.val (.int p0), .val (.int p1), .val (.int p2), .val (.int p3), .val (.int p4), .val (.int kk), .val (.int off), .val (.int n), .val (.int md), .val (.int g), .val (.int bb), .val (.ref pk), .val (.ref ce), .val (.ref b1), .val (.ref b5), .unset, .unset, .unset] [(.long ((((md).toInt64 * (md).toInt64) * (md).toInt64) * (md).toInt64)), (.int 4), (.ref b5)])) rfl rfl (hb hby at_336)
  have V17 : Arv Z h17 b5 k5 .long (5 : Int32) [(.long (1 : Int64)), (.long (md).toInt64), (.long ((md).toInt64 * (md).toInt64)), (.long (((md).toInt64 * (md).toInt64) * (md).toInt64)), (.long ((((md).toInt64 * (md).toInt64) * (md).toInt64) * (md).toInt64))] (.long (0 : Int64)) := Arv.set Ar17 qa17 qs17 qn17 qh17 qg17 rfl W17 4 rfl (Nat.le_of_ble_eq_true rfl)
  have f18_0 := Nat.le_trans f15_0 (Keep.of_wr W17).1
  have f18_1 := f15_1.wr W17
  have f18_2 := f15_2.other W17 (Or.inl ne_pk_b5)
  have f18_3 := f15_3.other W17 (Or.inl ne_pk_b5)
  have f18_4 := f15_4.other W17 (Or.inl ne_pk_b5)
  have f18_5 := f15_5.other W17 ne_pw_b5
  have f18_6 := f15_6.other W17 ne_ce_b5
  have f18_7 := f15_7.other W17 ne_b1_b5
  have N17 := Fr.snoc X17 N14 g_b5
  refine Wp.back (U' := (T17.setTop (mkF m 337 #[.val (.int p0), .val (.int p1), .val (.int p2), .val (.int p3), .val (.int p4), .val (.int kk), .val (.int off), .val (.int n), .val (.int md), .val (.int g), .val (.int bb), .val (.ref pk), .val (.ref ce), .val (.ref b1), .val (.ref b5), .unset, .unset, .unset] []))) st17 ?_
  refine Wp.back (U' := (T17.setTop (mkF m 349 #[.val (.int p0), .val (.int p1), .val (.int p2), .val (.int p3), .val (.int p4), .val (.int kk), .val (.int off), .val (.int n), .val (.int md), .val (.int g), .val (.int bb), .val (.ref pk), .val (.ref ce), .val (.ref b1), .val (.ref b5), .val (.long (0 : Int64)), .second, .unset] [(.ref b5), (.int g), (.int 0), (.ref ce), (.long (0 : Int64))]))) (fun t k => XT.lconstV X17.here hx rfl (0 : Int64) (hb hby at_337) (by decide) (XS.lstore X17.here hx rfl (hb hby at_338) rfl (l' := #[.val (.int p0), .val (.int p1), .val (.int p2), .val (.int p3), .val (.int p4), .val (.int kk), .val (.int off), .val (.int n), .val (.int md), .val (.int g), .val (.int bb), .val (.ref pk), .val (.ref ce), .val (.ref b1), .val (.ref b5), .val (.long (0 : Int64)), .second, .unset]) rfl (XS.lload X17.here hx rfl (hb hby at_340) rfl (XS.aload X17.here hx rfl (hb hby at_342) rfl rfl (XT.iconstV X17.here hx rfl 0 (hb hby at_344) (by decide) (XS.iload X17.here hx rfl (hb hby at_345) rfl (XS.aload X17.here hx rfl (hb hby at_347) rfl rfl k))))))) ?_
  obtain ⟨_, _, ⟨T19, L19, k19, n19⟩, -, X19, ⟨Lc19, hQ19, l19, y19, z19⟩, st19⟩ := Jvm.LawKit.callS X17 hx (y := Y8) hown (mvT hZ (ow hw 39 rfl)) (mvT hZ (ow hw 40 rfl)) (mvT hZ (ow hw 2 rfl)) (mvT hZ (ow hw 41 rfl)) (by decide) (backOf (W := 2) (rm_bl l Z a0 hw [] ce (0 : Int32) g b5 kc k5 n md f bb h17 n0 f18_0 f18_6 V17 hok (by decide) hn4) hZ (ow hw 41 rfl) (ow hw 2 rfl) (by decide) (by decide)) (g := (mkF m 349 #[.val (.int p0), .val (.int p1), .val (.int p2), .val (.int p3), .val (.int p4), .val (.int kk), .val (.int off), .val (.int n), .val (.int md), .val (.int g), .val (.int bb), .val (.ref pk), .val (.ref ce), .val (.ref b1), .val (.ref b5), .val (.long (0 : Int64)), .second, .unset] [(.ref b5), (.int g), (.int 0), (.ref ce), (.long (0 : Int64))])) rfl (by rw [hml]; rfl) (argsL := [(.ref ce), (.int 0), (.int g), (.ref b5)]) (rest := [(.long (0 : Int64))]) (lenOf pd_5 rfl) rfl (Nat.le_of_eq rfl) (hb hby at_349) (fun _ _ => ⟨rfl, e17, (by decide : 5 + 0 ≤ _), (by decide : 38 + 0 ≤ _)⟩)
  dsimp only [Pt.U, Pt.locs, Pt.cells, Pt.slots] at X19 l19 y19 z19 st19 hQ19
  subst l19 y19 z19
  obtain ⟨rfl, N19q, K19⟩ := hQ19
  have f20_0 := Nat.le_trans f18_0 K19.1
  have f20_1 := f18_1.keep K19
  have f20_2 := f18_2.keep K19 nin0
  have f20_3 := f18_3.keep K19 nin0
  have f20_4 := f18_4.keep K19 nin0
  have f20_5 := f18_5.keep K19 nin0
  have f20_6 := f18_6.keep K19 nin0
  have f20_7 := f18_7.keep K19 nin0
  have f20_8 := V17.keep K19 nin0
  have N19 := Fr.app N17 N19q
  refine Wp.back (U' := (T19.setTop (mkF m 352 #[.val (.int p0), .val (.int p1), .val (.int p2), .val (.int p3), .val (.int p4), .val (.int kk), .val (.int off), .val (.int n), .val (.int md), .val (.int g), .val (.int bb), .val (.ref pk), .val (.ref ce), .val (.ref b1), .val (.ref b5), .val (.long (0 : Int64)), .second, .unset] [(.long (own_blk g md n f (0 : Int32))), (.long (0 : Int64))]))) st19 ?_
  refine Wp.back (U' := (T19.setTop (mkF m 357 #[.val (.int p0), .val (.int p1), .val (.int p2), .val (.int p3), .val (.int p4), .val (.int kk), .val (.int off), .val (.int n), .val (.int md), .val (.int g), .val (.int bb), .val (.ref pk), .val (.ref ce), .val (.ref b1), .val (.ref b5), .val (.long (0 : Int64)), .second, .unset] [(.int bb), (.int 0), (.int off), (.long (own_blk g md n f (0 : Int32))), (.long (0 : Int64))]))) (fun t k => XS.iload X19.here hx rfl (hb hby at_352) rfl (XT.iconstV X19.here hx rfl 0 (hb hby at_354) (by decide) (XS.iload X19.here hx rfl (hb hby at_355) rfl k))) ?_
  obtain ⟨_, _, ⟨T21, L21, k21, n21⟩, -, X21, ⟨Lc21, hQ21, l21, y21, z21⟩, st21⟩ := Jvm.LawKit.callS X19 hx (y := Y4) hown (mvT hZ (ow hw 45 rfl)) (mvT hZ (ow hw 46 rfl)) (mvT hZ (ow hw 2 rfl)) (mvT hZ (ow hw 47 rfl)) (by decide) (backOf (W := 2) (rm_f_pl l Z a0 hw [] (own_blk g md n f (0 : Int32)) off (0 : Int32) bb T19.heap n0 f20_0 ) hZ (ow hw 47 rfl) (ow hw 2 rfl) (by decide) (by decide)) (g := (mkF m 357 #[.val (.int p0), .val (.int p1), .val (.int p2), .val (.int p3), .val (.int p4), .val (.int kk), .val (.int off), .val (.int n), .val (.int md), .val (.int g), .val (.int bb), .val (.ref pk), .val (.ref ce), .val (.ref b1), .val (.ref b5), .val (.long (0 : Int64)), .second, .unset] [(.int bb), (.int 0), (.int off), (.long (own_blk g md n f (0 : Int32))), (.long (0 : Int64))])) rfl (by rw [hml]; rfl) (argsL := [(.long (own_blk g md n f (0 : Int32))), (.int off), (.int 0), (.int bb)]) (rest := [(.long (0 : Int64))]) (lenOf pd_6 rfl) rfl (Nat.le_of_eq rfl) (hb hby at_357) (fun _ _ => ⟨rfl, rfl, (by decide : 5 + 0 ≤ _), (by decide : 38 + 0 ≤ _)⟩)
  dsimp only [Pt.U, Pt.locs, Pt.cells, Pt.slots] at X21 l21 y21 z21 st21 hQ21
  subst l21 y21 z21
  obtain ⟨rfl, N21q, e21⟩ := hQ21
  have N21 := Fr.app N19 N21q
  refine Wp.back (U' := (T21.setTop (mkF m 360 #[.val (.int p0), .val (.int p1), .val (.int p2), .val (.int p3), .val (.int p4), .val (.int kk), .val (.int off), .val (.int n), .val (.int md), .val (.int g), .val (.int bb), .val (.ref pk), .val (.ref ce), .val (.ref b1), .val (.ref b5), .val (.long (0 : Int64)), .second, .unset] [(.long (f_pl (own_blk g md n f (0 : Int32)) off (0 : Int32) bb)), (.long (0 : Int64))]))) st21 ?_
  refine Wp.back (U' := (T21.setTop (mkF m 372 #[.val (.int p0), .val (.int p1), .val (.int p2), .val (.int p3), .val (.int p4), .val (.int kk), .val (.int off), .val (.int n), .val (.int md), .val (.int g), .val (.int bb), .val (.ref pk), .val (.ref ce), .val (.ref b1), .val (.ref b5), .val (.long ((0 : Int64) ||| (f_pl (own_blk g md n f (0 : Int32)) off (0 : Int32) bb))), .second, .unset] [(.ref b5), (.int g), (.int 1), (.ref ce), (.long ((0 : Int64) ||| (f_pl (own_blk g md n f (0 : Int32)) off (0 : Int32) bb)))]))) (fun t k => XS.lor X21.here hx rfl (hb hby at_360) rfl (XS.lstore X21.here hx rfl (hb hby at_361) rfl (l' := #[.val (.int p0), .val (.int p1), .val (.int p2), .val (.int p3), .val (.int p4), .val (.int kk), .val (.int off), .val (.int n), .val (.int md), .val (.int g), .val (.int bb), .val (.ref pk), .val (.ref ce), .val (.ref b1), .val (.ref b5), .val (.long ((0 : Int64) ||| (f_pl (own_blk g md n f (0 : Int32)) off (0 : Int32) bb))), .second, .unset]) rfl (XS.lload X21.here hx rfl (hb hby at_363) rfl (XS.aload X21.here hx rfl (hb hby at_365) rfl rfl (XT.iconstV X21.here hx rfl 1 (hb hby at_367) (by decide) (XS.iload X21.here hx rfl (hb hby at_368) rfl (XS.aload X21.here hx rfl (hb hby at_370) rfl rfl k))))))) ?_
  obtain ⟨_, _, ⟨T22, L22, k22, n22⟩, -, X22, ⟨Lc22, hQ22, l22, y22, z22⟩, st22⟩ := Jvm.LawKit.callS X21 hx (y := Y8) hown (mvT hZ (ow hw 39 rfl)) (mvT hZ (ow hw 40 rfl)) (mvT hZ (ow hw 2 rfl)) (mvT hZ (ow hw 41 rfl)) (by decide) (backOf (W := 2) (rm_bl l Z a0 hw [] ce (1 : Int32) g b5 kc k5 n md f bb T19.heap n0 f20_0 f20_6 f20_8 hok (by decide) hn4) hZ (ow hw 41 rfl) (ow hw 2 rfl) (by decide) (by decide)) (g := (mkF m 372 #[.val (.int p0), .val (.int p1), .val (.int p2), .val (.int p3), .val (.int p4), .val (.int kk), .val (.int off), .val (.int n), .val (.int md), .val (.int g), .val (.int bb), .val (.ref pk), .val (.ref ce), .val (.ref b1), .val (.ref b5), .val (.long ((0 : Int64) ||| (f_pl (own_blk g md n f (0 : Int32)) off (0 : Int32) bb))), .second, .unset] [(.ref b5), (.int g), (.int 1), (.ref ce), (.long ((0 : Int64) ||| (f_pl (own_blk g md n f (0 : Int32)) off (0 : Int32) bb)))])) rfl (by rw [hml]; rfl) (argsL := [(.ref ce), (.int 1), (.int g), (.ref b5)]) (rest := [(.long ((0 : Int64) ||| (f_pl (own_blk g md n f (0 : Int32)) off (0 : Int32) bb)))]) (lenOf pd_5 rfl) rfl (Nat.le_of_eq rfl) (hb hby at_372) (fun _ _ => ⟨rfl, e21, (by decide : 5 + 0 ≤ _), (by decide : 38 + 0 ≤ _)⟩)
  dsimp only [Pt.U, Pt.locs, Pt.cells, Pt.slots] at X22 l22 y22 z22 st22 hQ22
  subst l22 y22 z22
  obtain ⟨rfl, N22q, K22⟩ := hQ22
  have f23_0 := Nat.le_trans f20_0 K22.1
  have f23_1 := f20_1.keep K22
  have f23_2 := f20_2.keep K22 nin0
  have f23_3 := f20_3.keep K22 nin0
  have f23_4 := f20_4.keep K22 nin0
  have f23_5 := f20_5.keep K22 nin0
  have f23_6 := f20_6.keep K22 nin0
  have f23_7 := f20_7.keep K22 nin0
  have f23_8 := f20_8.keep K22 nin0
  have N22 := Fr.app N21 N22q
  refine Wp.back (U' := (T22.setTop (mkF m 375 #[.val (.int p0), .val (.int p1), .val (.int p2), .val (.int p3), .val (.int p4), .val (.int kk), .val (.int off), .val (.int n), .val (.int md), .val (.int g), .val (.int bb), .val (.ref pk), .val (.ref ce), .val (.ref b1), .val (.ref b5), .val (.long ((0 : Int64) ||| (f_pl (own_blk g md n f (0 : Int32)) off (0 : Int32) bb))), .second, .unset] [(.long (own_blk g md n f (1 : Int32))), (.long ((0 : Int64) ||| (f_pl (own_blk g md n f (0 : Int32)) off (0 : Int32) bb)))]))) st22 ?_
  refine Wp.back (U' := (T22.setTop (mkF m 380 #[.val (.int p0), .val (.int p1), .val (.int p2), .val (.int p3), .val (.int p4), .val (.int kk), .val (.int off), .val (.int n), .val (.int md), .val (.int g), .val (.int bb), .val (.ref pk), .val (.ref ce), .val (.ref b1), .val (.ref b5), .val (.long ((0 : Int64) ||| (f_pl (own_blk g md n f (0 : Int32)) off (0 : Int32) bb))), .second, .unset] [(.int bb), (.int 1), (.int off), (.long (own_blk g md n f (1 : Int32))), (.long ((0 : Int64) ||| (f_pl (own_blk g md n f (0 : Int32)) off (0 : Int32) bb)))]))) (fun t k => XS.iload X22.here hx rfl (hb hby at_375) rfl (XT.iconstV X22.here hx rfl 1 (hb hby at_377) (by decide) (XS.iload X22.here hx rfl (hb hby at_378) rfl k))) ?_
  obtain ⟨_, _, ⟨T24, L24, k24, n24⟩, -, X24, ⟨Lc24, hQ24, l24, y24, z24⟩, st24⟩ := Jvm.LawKit.callS X22 hx (y := Y4) hown (mvT hZ (ow hw 45 rfl)) (mvT hZ (ow hw 46 rfl)) (mvT hZ (ow hw 2 rfl)) (mvT hZ (ow hw 47 rfl)) (by decide) (backOf (W := 2) (rm_f_pl l Z a0 hw [] (own_blk g md n f (1 : Int32)) off (1 : Int32) bb T22.heap n0 f23_0 ) hZ (ow hw 47 rfl) (ow hw 2 rfl) (by decide) (by decide)) (g := (mkF m 380 #[.val (.int p0), .val (.int p1), .val (.int p2), .val (.int p3), .val (.int p4), .val (.int kk), .val (.int off), .val (.int n), .val (.int md), .val (.int g), .val (.int bb), .val (.ref pk), .val (.ref ce), .val (.ref b1), .val (.ref b5), .val (.long ((0 : Int64) ||| (f_pl (own_blk g md n f (0 : Int32)) off (0 : Int32) bb))), .second, .unset] [(.int bb), (.int 1), (.int off), (.long (own_blk g md n f (1 : Int32))), (.long ((0 : Int64) ||| (f_pl (own_blk g md n f (0 : Int32)) off (0 : Int32) bb)))])) rfl (by rw [hml]; rfl) (argsL := [(.long (own_blk g md n f (1 : Int32))), (.int off), (.int 1), (.int bb)]) (rest := [(.long ((0 : Int64) ||| (f_pl (own_blk g md n f (0 : Int32)) off (0 : Int32) bb)))]) (lenOf pd_6 rfl) rfl (Nat.le_of_eq rfl) (hb hby at_380) (fun _ _ => ⟨rfl, rfl, (by decide : 5 + 0 ≤ _), (by decide : 38 + 0 ≤ _)⟩)
  dsimp only [Pt.U, Pt.locs, Pt.cells, Pt.slots] at X24 l24 y24 z24 st24 hQ24
  subst l24 y24 z24
  obtain ⟨rfl, N24q, e24⟩ := hQ24
  have N24 := Fr.app N22 N24q
  refine Wp.back (U' := (T24.setTop (mkF m 383 #[.val (.int p0), .val (.int p1), .val (.int p2), .val (.int p3), .val (.int p4), .val (.int kk), .val (.int off), .val (.int n), .val (.int md), .val (.int g), .val (.int bb), .val (.ref pk), .val (.ref ce), .val (.ref b1), .val (.ref b5), .val (.long ((0 : Int64) ||| (f_pl (own_blk g md n f (0 : Int32)) off (0 : Int32) bb))), .second, .unset] [(.long (f_pl (own_blk g md n f (1 : Int32)) off (1 : Int32) bb)), (.long ((0 : Int64) ||| (f_pl (own_blk g md n f (0 : Int32)) off (0 : Int32) bb)))]))) st24 ?_
  refine Wp.back (U' := (T24.setTop (mkF m 395 #[.val (.int p0), .val (.int p1), .val (.int p2), .val (.int p3), .val (.int p4), .val (.int kk), .val (.int off), .val (.int n), .val (.int md), .val (.int g), .val (.int bb), .val (.ref pk), .val (.ref ce), .val (.ref b1), .val (.ref b5), .val (.long (((0 : Int64) ||| (f_pl (own_blk g md n f (0 : Int32)) off (0 : Int32) bb)) ||| (f_pl (own_blk g md n f (1 : Int32)) off (1 : Int32) bb))), .second, .unset] [(.ref b5), (.int g), (.int 2), (.ref ce), (.long (((0 : Int64) ||| (f_pl (own_blk g md n f (0 : Int32)) off (0 : Int32) bb)) ||| (f_pl (own_blk g md n f (1 : Int32)) off (1 : Int32) bb)))]))) (fun t k => XS.lor X24.here hx rfl (hb hby at_383) rfl (XS.lstore X24.here hx rfl (hb hby at_384) rfl (l' := #[.val (.int p0), .val (.int p1), .val (.int p2), .val (.int p3), .val (.int p4), .val (.int kk), .val (.int off), .val (.int n), .val (.int md), .val (.int g), .val (.int bb), .val (.ref pk), .val (.ref ce), .val (.ref b1), .val (.ref b5), .val (.long (((0 : Int64) ||| (f_pl (own_blk g md n f (0 : Int32)) off (0 : Int32) bb)) ||| (f_pl (own_blk g md n f (1 : Int32)) off (1 : Int32) bb))), .second, .unset]) rfl (XS.lload X24.here hx rfl (hb hby at_386) rfl (XS.aload X24.here hx rfl (hb hby at_388) rfl rfl (XT.iconstV X24.here hx rfl 2 (hb hby at_390) (by decide) (XS.iload X24.here hx rfl (hb hby at_391) rfl (XS.aload X24.here hx rfl (hb hby at_393) rfl rfl k))))))) ?_
  obtain ⟨_, _, ⟨T25, L25, k25, n25⟩, -, X25, ⟨Lc25, hQ25, l25, y25, z25⟩, st25⟩ := Jvm.LawKit.callS X24 hx (y := Y8) hown (mvT hZ (ow hw 39 rfl)) (mvT hZ (ow hw 40 rfl)) (mvT hZ (ow hw 2 rfl)) (mvT hZ (ow hw 41 rfl)) (by decide) (backOf (W := 2) (rm_bl l Z a0 hw [] ce (2 : Int32) g b5 kc k5 n md f bb T22.heap n0 f23_0 f23_6 f23_8 hok (by decide) hn4) hZ (ow hw 41 rfl) (ow hw 2 rfl) (by decide) (by decide)) (g := (mkF m 395 #[.val (.int p0), .val (.int p1), .val (.int p2), .val (.int p3), .val (.int p4), .val (.int kk), .val (.int off), .val (.int n), .val (.int md), .val (.int g), .val (.int bb), .val (.ref pk), .val (.ref ce), .val (.ref b1), .val (.ref b5), .val (.long (((0 : Int64) ||| (f_pl (own_blk g md n f (0 : Int32)) off (0 : Int32) bb)) ||| (f_pl (own_blk g md n f (1 : Int32)) off (1 : Int32) bb))), .second, .unset] [(.ref b5), (.int g), (.int 2), (.ref ce), (.long (((0 : Int64) ||| (f_pl (own_blk g md n f (0 : Int32)) off (0 : Int32) bb)) ||| (f_pl (own_blk g md n f (1 : Int32)) off (1 : Int32) bb)))])) rfl (by rw [hml]; rfl) (argsL := [(.ref ce), (.int 2), (.int g), (.ref b5)]) (rest := [(.long (((0 : Int64) ||| (f_pl (own_blk g md n f (0 : Int32)) off (0 : Int32) bb)) ||| (f_pl (own_blk g md n f (1 : Int32)) off (1 : Int32) bb)))]) (lenOf pd_5 rfl) rfl (Nat.le_of_eq rfl) (hb hby at_395) (fun _ _ => ⟨rfl, e24, (by decide : 5 + 0 ≤ _), (by decide : 38 + 0 ≤ _)⟩)
  dsimp only [Pt.U, Pt.locs, Pt.cells, Pt.slots] at X25 l25 y25 z25 st25 hQ25
  subst l25 y25 z25
  obtain ⟨rfl, N25q, K25⟩ := hQ25
  have f26_0 := Nat.le_trans f23_0 K25.1
  have f26_1 := f23_1.keep K25
  have f26_2 := f23_2.keep K25 nin0
  have f26_3 := f23_3.keep K25 nin0
  have f26_4 := f23_4.keep K25 nin0
  have f26_5 := f23_5.keep K25 nin0
  have f26_6 := f23_6.keep K25 nin0
  have f26_7 := f23_7.keep K25 nin0
  have f26_8 := f23_8.keep K25 nin0
  have N25 := Fr.app N24 N25q
  refine Wp.back (U' := (T25.setTop (mkF m 398 #[.val (.int p0), .val (.int p1), .val (.int p2), .val (.int p3), .val (.int p4), .val (.int kk), .val (.int off), .val (.int n), .val (.int md), .val (.int g), .val (.int bb), .val (.ref pk), .val (.ref ce), .val (.ref b1), .val (.ref b5), .val (.long (((0 : Int64) ||| (f_pl (own_blk g md n f (0 : Int32)) off (0 : Int32) bb)) ||| (f_pl (own_blk g md n f (1 : Int32)) off (1 : Int32) bb))), .second, .unset] [(.long (own_blk g md n f (2 : Int32))), (.long (((0 : Int64) ||| (f_pl (own_blk g md n f (0 : Int32)) off (0 : Int32) bb)) ||| (f_pl (own_blk g md n f (1 : Int32)) off (1 : Int32) bb)))]))) st25 ?_
  refine Wp.back (U' := (T25.setTop (mkF m 403 #[.val (.int p0), .val (.int p1), .val (.int p2), .val (.int p3), .val (.int p4), .val (.int kk), .val (.int off), .val (.int n), .val (.int md), .val (.int g), .val (.int bb), .val (.ref pk), .val (.ref ce), .val (.ref b1), .val (.ref b5), .val (.long (((0 : Int64) ||| (f_pl (own_blk g md n f (0 : Int32)) off (0 : Int32) bb)) ||| (f_pl (own_blk g md n f (1 : Int32)) off (1 : Int32) bb))), .second, .unset] [(.int bb), (.int 2), (.int off), (.long (own_blk g md n f (2 : Int32))), (.long (((0 : Int64) ||| (f_pl (own_blk g md n f (0 : Int32)) off (0 : Int32) bb)) ||| (f_pl (own_blk g md n f (1 : Int32)) off (1 : Int32) bb)))]))) (fun t k => XS.iload X25.here hx rfl (hb hby at_398) rfl (XT.iconstV X25.here hx rfl 2 (hb hby at_400) (by decide) (XS.iload X25.here hx rfl (hb hby at_401) rfl k))) ?_
  obtain ⟨_, _, ⟨T27, L27, k27, n27⟩, -, X27, ⟨Lc27, hQ27, l27, y27, z27⟩, st27⟩ := Jvm.LawKit.callS X25 hx (y := Y4) hown (mvT hZ (ow hw 45 rfl)) (mvT hZ (ow hw 46 rfl)) (mvT hZ (ow hw 2 rfl)) (mvT hZ (ow hw 47 rfl)) (by decide) (backOf (W := 2) (rm_f_pl l Z a0 hw [] (own_blk g md n f (2 : Int32)) off (2 : Int32) bb T25.heap n0 f26_0 ) hZ (ow hw 47 rfl) (ow hw 2 rfl) (by decide) (by decide)) (g := (mkF m 403 #[.val (.int p0), .val (.int p1), .val (.int p2), .val (.int p3), .val (.int p4), .val (.int kk), .val (.int off), .val (.int n), .val (.int md), .val (.int g), .val (.int bb), .val (.ref pk), .val (.ref ce), .val (.ref b1), .val (.ref b5), .val (.long (((0 : Int64) ||| (f_pl (own_blk g md n f (0 : Int32)) off (0 : Int32) bb)) ||| (f_pl (own_blk g md n f (1 : Int32)) off (1 : Int32) bb))), .second, .unset] [(.int bb), (.int 2), (.int off), (.long (own_blk g md n f (2 : Int32))), (.long (((0 : Int64) ||| (f_pl (own_blk g md n f (0 : Int32)) off (0 : Int32) bb)) ||| (f_pl (own_blk g md n f (1 : Int32)) off (1 : Int32) bb)))])) rfl (by rw [hml]; rfl) (argsL := [(.long (own_blk g md n f (2 : Int32))), (.int off), (.int 2), (.int bb)]) (rest := [(.long (((0 : Int64) ||| (f_pl (own_blk g md n f (0 : Int32)) off (0 : Int32) bb)) ||| (f_pl (own_blk g md n f (1 : Int32)) off (1 : Int32) bb)))]) (lenOf pd_6 rfl) rfl (Nat.le_of_eq rfl) (hb hby at_403) (fun _ _ => ⟨rfl, rfl, (by decide : 5 + 0 ≤ _), (by decide : 38 + 0 ≤ _)⟩)
  dsimp only [Pt.U, Pt.locs, Pt.cells, Pt.slots] at X27 l27 y27 z27 st27 hQ27
  subst l27 y27 z27
  obtain ⟨rfl, N27q, e27⟩ := hQ27
  have N27 := Fr.app N25 N27q
  refine Wp.back (U' := (T27.setTop (mkF m 406 #[.val (.int p0), .val (.int p1), .val (.int p2), .val (.int p3), .val (.int p4), .val (.int kk), .val (.int off), .val (.int n), .val (.int md), .val (.int g), .val (.int bb), .val (.ref pk), .val (.ref ce), .val (.ref b1), .val (.ref b5), .val (.long (((0 : Int64) ||| (f_pl (own_blk g md n f (0 : Int32)) off (0 : Int32) bb)) ||| (f_pl (own_blk g md n f (1 : Int32)) off (1 : Int32) bb))), .second, .unset] [(.long (f_pl (own_blk g md n f (2 : Int32)) off (2 : Int32) bb)), (.long (((0 : Int64) ||| (f_pl (own_blk g md n f (0 : Int32)) off (0 : Int32) bb)) ||| (f_pl (own_blk g md n f (1 : Int32)) off (1 : Int32) bb)))]))) st27 ?_
  refine Wp.back (U' := (T27.setTop (mkF m 418 #[.val (.int p0), .val (.int p1), .val (.int p2), .val (.int p3), .val (.int p4), .val (.int kk), .val (.int off), .val (.int n), .val (.int md), .val (.int g), .val (.int bb), .val (.ref pk), .val (.ref ce), .val (.ref b1), .val (.ref b5), .val (.long ((((0 : Int64) ||| (f_pl (own_blk g md n f (0 : Int32)) off (0 : Int32) bb)) ||| (f_pl (own_blk g md n f (1 : Int32)) off (1 : Int32) bb)) ||| (f_pl (own_blk g md n f (2 : Int32)) off (2 : Int32) bb))), .second, .unset] [(.ref b5), (.int g), (.int 3), (.ref ce), (.long ((((0 : Int64) ||| (f_pl (own_blk g md n f (0 : Int32)) off (0 : Int32) bb)) ||| (f_pl (own_blk g md n f (1 : Int32)) off (1 : Int32) bb)) ||| (f_pl (own_blk g md n f (2 : Int32)) off (2 : Int32) bb)))]))) (fun t k => XS.lor X27.here hx rfl (hb hby at_406) rfl (XS.lstore X27.here hx rfl (hb hby at_407) rfl (l' := #[.val (.int p0), .val (.int p1), .val (.int p2), .val (.int p3), .val (.int p4), .val (.int kk), .val (.int off), .val (.int n), .val (.int md), .val (.int g), .val (.int bb), .val (.ref pk), .val (.ref ce), .val (.ref b1), .val (.ref b5), .val (.long ((((0 : Int64) ||| (f_pl (own_blk g md n f (0 : Int32)) off (0 : Int32) bb)) ||| (f_pl (own_blk g md n f (1 : Int32)) off (1 : Int32) bb)) ||| (f_pl (own_blk g md n f (2 : Int32)) off (2 : Int32) bb))), .second, .unset]) rfl (XS.lload X27.here hx rfl (hb hby at_409) rfl (XS.aload X27.here hx rfl (hb hby at_411) rfl rfl (XT.iconstV X27.here hx rfl 3 (hb hby at_413) (by decide) (XS.iload X27.here hx rfl (hb hby at_414) rfl (XS.aload X27.here hx rfl (hb hby at_416) rfl rfl k))))))) ?_
  obtain ⟨_, _, ⟨T28, L28, k28, n28⟩, -, X28, ⟨Lc28, hQ28, l28, y28, z28⟩, st28⟩ := Jvm.LawKit.callS X27 hx (y := Y8) hown (mvT hZ (ow hw 39 rfl)) (mvT hZ (ow hw 40 rfl)) (mvT hZ (ow hw 2 rfl)) (mvT hZ (ow hw 41 rfl)) (by decide) (backOf (W := 2) (rm_bl l Z a0 hw [] ce (3 : Int32) g b5 kc k5 n md f bb T25.heap n0 f26_0 f26_6 f26_8 hok (by decide) hn4) hZ (ow hw 41 rfl) (ow hw 2 rfl) (by decide) (by decide)) (g := (mkF m 418 #[.val (.int p0), .val (.int p1), .val (.int p2), .val (.int p3), .val (.int p4), .val (.int kk), .val (.int off), .val (.int n), .val (.int md), .val (.int g), .val (.int bb), .val (.ref pk), .val (.ref ce), .val (.ref b1), .val (.ref b5), .val (.long ((((0 : Int64) ||| (f_pl (own_blk g md n f (0 : Int32)) off (0 : Int32) bb)) ||| (f_pl (own_blk g md n f (1 : Int32)) off (1 : Int32) bb)) ||| (f_pl (own_blk g md n f (2 : Int32)) off (2 : Int32) bb))), .second, .unset] [(.ref b5), (.int g), (.int 3), (.ref ce), (.long ((((0 : Int64) ||| (f_pl (own_blk g md n f (0 : Int32)) off (0 : Int32) bb)) ||| (f_pl (own_blk g md n f (1 : Int32)) off (1 : Int32) bb)) ||| (f_pl (own_blk g md n f (2 : Int32)) off (2 : Int32) bb)))])) rfl (by rw [hml]; rfl) (argsL := [(.ref ce), (.int 3), (.int g), (.ref b5)]) (rest := [(.long ((((0 : Int64) ||| (f_pl (own_blk g md n f (0 : Int32)) off (0 : Int32) bb)) ||| (f_pl (own_blk g md n f (1 : Int32)) off (1 : Int32) bb)) ||| (f_pl (own_blk g md n f (2 : Int32)) off (2 : Int32) bb)))]) (lenOf pd_5 rfl) rfl (Nat.le_of_eq rfl) (hb hby at_418) (fun _ _ => ⟨rfl, e27, (by decide : 5 + 0 ≤ _), (by decide : 38 + 0 ≤ _)⟩)
  dsimp only [Pt.U, Pt.locs, Pt.cells, Pt.slots] at X28 l28 y28 z28 st28 hQ28
  subst l28 y28 z28
  obtain ⟨rfl, N28q, K28⟩ := hQ28
  have f29_0 := Nat.le_trans f26_0 K28.1
  have f29_1 := f26_1.keep K28
  have f29_2 := f26_2.keep K28 nin0
  have f29_3 := f26_3.keep K28 nin0
  have f29_4 := f26_4.keep K28 nin0
  have f29_5 := f26_5.keep K28 nin0
  have f29_6 := f26_6.keep K28 nin0
  have f29_7 := f26_7.keep K28 nin0
  have f29_8 := f26_8.keep K28 nin0
  have N28 := Fr.app N27 N28q
  refine Wp.back (U' := (T28.setTop (mkF m 421 #[.val (.int p0), .val (.int p1), .val (.int p2), .val (.int p3), .val (.int p4), .val (.int kk), .val (.int off), .val (.int n), .val (.int md), .val (.int g), .val (.int bb), .val (.ref pk), .val (.ref ce), .val (.ref b1), .val (.ref b5), .val (.long ((((0 : Int64) ||| (f_pl (own_blk g md n f (0 : Int32)) off (0 : Int32) bb)) ||| (f_pl (own_blk g md n f (1 : Int32)) off (1 : Int32) bb)) ||| (f_pl (own_blk g md n f (2 : Int32)) off (2 : Int32) bb))), .second, .unset] [(.long (own_blk g md n f (3 : Int32))), (.long ((((0 : Int64) ||| (f_pl (own_blk g md n f (0 : Int32)) off (0 : Int32) bb)) ||| (f_pl (own_blk g md n f (1 : Int32)) off (1 : Int32) bb)) ||| (f_pl (own_blk g md n f (2 : Int32)) off (2 : Int32) bb)))]))) st28 ?_
  refine Wp.back (U' := (T28.setTop (mkF m 426 #[.val (.int p0), .val (.int p1), .val (.int p2), .val (.int p3), .val (.int p4), .val (.int kk), .val (.int off), .val (.int n), .val (.int md), .val (.int g), .val (.int bb), .val (.ref pk), .val (.ref ce), .val (.ref b1), .val (.ref b5), .val (.long ((((0 : Int64) ||| (f_pl (own_blk g md n f (0 : Int32)) off (0 : Int32) bb)) ||| (f_pl (own_blk g md n f (1 : Int32)) off (1 : Int32) bb)) ||| (f_pl (own_blk g md n f (2 : Int32)) off (2 : Int32) bb))), .second, .unset] [(.int bb), (.int 3), (.int off), (.long (own_blk g md n f (3 : Int32))), (.long ((((0 : Int64) ||| (f_pl (own_blk g md n f (0 : Int32)) off (0 : Int32) bb)) ||| (f_pl (own_blk g md n f (1 : Int32)) off (1 : Int32) bb)) ||| (f_pl (own_blk g md n f (2 : Int32)) off (2 : Int32) bb)))]))) (fun t k => XS.iload X28.here hx rfl (hb hby at_421) rfl (XT.iconstV X28.here hx rfl 3 (hb hby at_423) (by decide) (XS.iload X28.here hx rfl (hb hby at_424) rfl k))) ?_
  obtain ⟨_, _, ⟨T30, L30, k30, n30⟩, -, X30, ⟨Lc30, hQ30, l30, y30, z30⟩, st30⟩ := Jvm.LawKit.callS X28 hx (y := Y4) hown (mvT hZ (ow hw 45 rfl)) (mvT hZ (ow hw 46 rfl)) (mvT hZ (ow hw 2 rfl)) (mvT hZ (ow hw 47 rfl)) (by decide) (backOf (W := 2) (rm_f_pl l Z a0 hw [] (own_blk g md n f (3 : Int32)) off (3 : Int32) bb T28.heap n0 f29_0 ) hZ (ow hw 47 rfl) (ow hw 2 rfl) (by decide) (by decide)) (g := (mkF m 426 #[.val (.int p0), .val (.int p1), .val (.int p2), .val (.int p3), .val (.int p4), .val (.int kk), .val (.int off), .val (.int n), .val (.int md), .val (.int g), .val (.int bb), .val (.ref pk), .val (.ref ce), .val (.ref b1), .val (.ref b5), .val (.long ((((0 : Int64) ||| (f_pl (own_blk g md n f (0 : Int32)) off (0 : Int32) bb)) ||| (f_pl (own_blk g md n f (1 : Int32)) off (1 : Int32) bb)) ||| (f_pl (own_blk g md n f (2 : Int32)) off (2 : Int32) bb))), .second, .unset] [(.int bb), (.int 3), (.int off), (.long (own_blk g md n f (3 : Int32))), (.long ((((0 : Int64) ||| (f_pl (own_blk g md n f (0 : Int32)) off (0 : Int32) bb)) ||| (f_pl (own_blk g md n f (1 : Int32)) off (1 : Int32) bb)) ||| (f_pl (own_blk g md n f (2 : Int32)) off (2 : Int32) bb)))])) rfl (by rw [hml]; rfl) (argsL := [(.long (own_blk g md n f (3 : Int32))), (.int off), (.int 3), (.int bb)]) (rest := [(.long ((((0 : Int64) ||| (f_pl (own_blk g md n f (0 : Int32)) off (0 : Int32) bb)) ||| (f_pl (own_blk g md n f (1 : Int32)) off (1 : Int32) bb)) ||| (f_pl (own_blk g md n f (2 : Int32)) off (2 : Int32) bb)))]) (lenOf pd_6 rfl) rfl (Nat.le_of_eq rfl) (hb hby at_426) (fun _ _ => ⟨rfl, rfl, (by decide : 5 + 0 ≤ _), (by decide : 38 + 0 ≤ _)⟩)
  dsimp only [Pt.U, Pt.locs, Pt.cells, Pt.slots] at X30 l30 y30 z30 st30 hQ30
  subst l30 y30 z30
  obtain ⟨rfl, N30q, e30⟩ := hQ30
  have N30 := Fr.app N28 N30q
  refine Wp.back (U' := (T30.setTop (mkF m 429 #[.val (.int p0), .val (.int p1), .val (.int p2), .val (.int p3), .val (.int p4), .val (.int kk), .val (.int off), .val (.int n), .val (.int md), .val (.int g), .val (.int bb), .val (.ref pk), .val (.ref ce), .val (.ref b1), .val (.ref b5), .val (.long ((((0 : Int64) ||| (f_pl (own_blk g md n f (0 : Int32)) off (0 : Int32) bb)) ||| (f_pl (own_blk g md n f (1 : Int32)) off (1 : Int32) bb)) ||| (f_pl (own_blk g md n f (2 : Int32)) off (2 : Int32) bb))), .second, .unset] [(.long (f_pl (own_blk g md n f (3 : Int32)) off (3 : Int32) bb)), (.long ((((0 : Int64) ||| (f_pl (own_blk g md n f (0 : Int32)) off (0 : Int32) bb)) ||| (f_pl (own_blk g md n f (1 : Int32)) off (1 : Int32) bb)) ||| (f_pl (own_blk g md n f (2 : Int32)) off (2 : Int32) bb)))]))) st30 ?_
  refine Wp.back (U' := (T30.setTop (mkF m 436 #[.val (.int p0), .val (.int p1), .val (.int p2), .val (.int p3), .val (.int p4), .val (.int kk), .val (.int off), .val (.int n), .val (.int md), .val (.int g), .val (.int bb), .val (.ref pk), .val (.ref ce), .val (.ref b1), .val (.ref b5), .val (.long (((((0 : Int64) ||| (f_pl (own_blk g md n f (0 : Int32)) off (0 : Int32) bb)) ||| (f_pl (own_blk g md n f (1 : Int32)) off (1 : Int32) bb)) ||| (f_pl (own_blk g md n f (2 : Int32)) off (2 : Int32) bb)) ||| (f_pl (own_blk g md n f (3 : Int32)) off (3 : Int32) bb))), .second, .unset] [(.int 8), (.ref b1)]))) (fun t k => XS.lor X30.here hx rfl (hb hby at_429) rfl (XS.lstore X30.here hx rfl (hb hby at_430) rfl (l' := #[.val (.int p0), .val (.int p1), .val (.int p2), .val (.int p3), .val (.int p4), .val (.int kk), .val (.int off), .val (.int n), .val (.int md), .val (.int g), .val (.int bb), .val (.ref pk), .val (.ref ce), .val (.ref b1), .val (.ref b5), .val (.long (((((0 : Int64) ||| (f_pl (own_blk g md n f (0 : Int32)) off (0 : Int32) bb)) ||| (f_pl (own_blk g md n f (1 : Int32)) off (1 : Int32) bb)) ||| (f_pl (own_blk g md n f (2 : Int32)) off (2 : Int32) bb)) ||| (f_pl (own_blk g md n f (3 : Int32)) off (3 : Int32) bb))), .second, .unset]) rfl (XS.aload X30.here hx rfl (hb hby at_432) rfl rfl (XT.bipushV X30.here hx rfl 8 (hb hby at_434) (by decide) k)))) ?_
  have vq31 := f29_7
  obtain ⟨cl31, Ar31, qa31, qs31, qn31, qh31, qg31⟩ := vq31
  have hin31 : ¬ ((8 : Int32) < 0 ∨ cl31.slots.size ≤ ((8 : Int32)).toNatClampNeg) := inb_of qs31 ⟨by decide, by decide⟩
  have hat31 : cl31.slots[((8 : Int32)).toNatClampNeg]? = some (.int (fB (8 : Int32))) := Has.at qh31 hin31 rfl
  refine Wp.back (U' := (T30.setTop (mkF m 437 #[.val (.int p0), .val (.int p1), .val (.int p2), .val (.int p3), .val (.int p4), .val (.int kk), .val (.int off), .val (.int n), .val (.int md), .val (.int g), .val (.int bb), .val (.ref pk), .val (.ref ce), .val (.ref b1), .val (.ref b5), .val (.long (((((0 : Int64) ||| (f_pl (own_blk g md n f (0 : Int32)) off (0 : Int32) bb)) ||| (f_pl (own_blk g md n f (1 : Int32)) off (1 : Int32) bb)) ||| (f_pl (own_blk g md n f (2 : Int32)) off (2 : Int32) bb)) ||| (f_pl (own_blk g md n f (3 : Int32)) off (3 : Int32) bb))), .second, .unset] [(.int (fB (8 : Int32)))]))) (fun t k => X30.baloadBytes hx (j := (8 : Int32)) (v := (.int (fB (8 : Int32)))) (by rw [e30]; exact Ar31.1) (State.isArrayOf_alike hZ.alike Ar31.2.1) Ar31.2.2 hin31 hat31 (g := (mkF m 436 #[.val (.int p0), .val (.int p1), .val (.int p2), .val (.int p3), .val (.int p4), .val (.int kk), .val (.int off), .val (.int n), .val (.int md), .val (.int g), .val (.int bb), .val (.ref pk), .val (.ref ce), .val (.ref b1), .val (.ref b5), .val (.long (((((0 : Int64) ||| (f_pl (own_blk g md n f (0 : Int32)) off (0 : Int32) bb)) ||| (f_pl (own_blk g md n f (1 : Int32)) off (1 : Int32) bb)) ||| (f_pl (own_blk g md n f (2 : Int32)) off (2 : Int32) bb)) ||| (f_pl (own_blk g md n f (3 : Int32)) off (3 : Int32) bb))), .second, .unset] [(.int 8), (.ref b1)])) rfl rfl (hb hby at_436) t k) ?_
  refine Wp.back (U' := (T30.setTop (mkF m 457 #[.val (.int p0), .val (.int p1), .val (.int p2), .val (.int p3), .val (.int p4), .val (.int kk), .val (.int off), .val (.int n), .val (.int md), .val (.int g), .val (.int bb), .val (.ref pk), .val (.ref ce), .val (.ref b1), .val (.ref b5), .val (.long (((((0 : Int64) ||| (f_pl (own_blk g md n f (0 : Int32)) off (0 : Int32) bb)) ||| (f_pl (own_blk g md n f (1 : Int32)) off (1 : Int32) bb)) ||| (f_pl (own_blk g md n f (2 : Int32)) off (2 : Int32) bb)) ||| (f_pl (own_blk g md n f (3 : Int32)) off (3 : Int32) bb))), .second, .val (.int 1)] [(.long (((((0 : Int64) ||| (f_pl (own_blk g md n f (0 : Int32)) off (0 : Int32) bb)) ||| (f_pl (own_blk g md n f (1 : Int32)) off (1 : Int32) bb)) ||| (f_pl (own_blk g md n f (2 : Int32)) off (2 : Int32) bb)) ||| (f_pl (own_blk g md n f (3 : Int32)) off (3 : Int32) bb))), (.int 0), (.ref b1)]))) (fun t k => XS.ifNo X30.here hx rfl (hb hby at_437) rfl ((if0 _ _).trans (teq oI.1).2) (XT.iconstV X30.here hx rfl 1 (hb hby at_440) (by decide) (XS.goto X30.here hx rfl (pc0 := 441) (pc' := 445) rfl (hb hby at_441) (by decide) (by decide) (XS.istore X30.here hx rfl (hb hby at_445) rfl (l' := #[.val (.int p0), .val (.int p1), .val (.int p2), .val (.int p3), .val (.int p4), .val (.int kk), .val (.int off), .val (.int n), .val (.int md), .val (.int g), .val (.int bb), .val (.ref pk), .val (.ref ce), .val (.ref b1), .val (.ref b5), .val (.long (((((0 : Int64) ||| (f_pl (own_blk g md n f (0 : Int32)) off (0 : Int32) bb)) ||| (f_pl (own_blk g md n f (1 : Int32)) off (1 : Int32) bb)) ||| (f_pl (own_blk g md n f (2 : Int32)) off (2 : Int32) bb)) ||| (f_pl (own_blk g md n f (3 : Int32)) off (3 : Int32) bb))), .second, .val (.int 1)]) rfl (XS.iload X30.here hx rfl (hb hby at_447) rfl (XS.ifNo X30.here hx rfl (hb hby at_449) rfl ((if0 _ _).trans (feq (by decide)).1) (XS.aload X30.here hx rfl (hb hby at_452) rfl rfl (XT.iconstV X30.here hx rfl 0 (hb hby at_454) (by decide) (XS.lload X30.here hx rfl (hb hby at_455) rfl k))))))))) ?_
  obtain ⟨_, _, ⟨T32, L32, k32, n32⟩, -, X32, ⟨Lc32, hQ32, l32, y32, z32⟩, st32⟩ := Jvm.LawKit.callS X30 hx (y := Y9) hown (mvT hZ (ow hw 48 rfl)) (mvT hZ (ow hw 49 rfl)) (mvT hZ (ow hw 2 rfl)) (mvT hZ (ow hw 50 rfl)) (by decide) (backOf (W := 0) (rm_bo l Z a0 hw [] b1 (0 : Int32) (((((0 : Int64) ||| (f_pl (own_blk g md n f (0 : Int32)) off (0 : Int32) bb)) ||| (f_pl (own_blk g md n f (1 : Int32)) off (1 : Int32) bb)) ||| (f_pl (own_blk g md n f (2 : Int32)) off (2 : Int32) bb)) ||| (f_pl (own_blk g md n f (3 : Int32)) off (3 : Int32) bb)) k1 fB T28.heap n0 f29_0 f29_7 ⟨by decide, by decide⟩ (oI.2 (0 : Int32) (by decide) (by decide))) hZ (ow hw 50 rfl) (ow hw 2 rfl) (by decide) (by decide)) (g := (mkF m 457 #[.val (.int p0), .val (.int p1), .val (.int p2), .val (.int p3), .val (.int p4), .val (.int kk), .val (.int off), .val (.int n), .val (.int md), .val (.int g), .val (.int bb), .val (.ref pk), .val (.ref ce), .val (.ref b1), .val (.ref b5), .val (.long (((((0 : Int64) ||| (f_pl (own_blk g md n f (0 : Int32)) off (0 : Int32) bb)) ||| (f_pl (own_blk g md n f (1 : Int32)) off (1 : Int32) bb)) ||| (f_pl (own_blk g md n f (2 : Int32)) off (2 : Int32) bb)) ||| (f_pl (own_blk g md n f (3 : Int32)) off (3 : Int32) bb))), .second, .val (.int 1)] [(.long (((((0 : Int64) ||| (f_pl (own_blk g md n f (0 : Int32)) off (0 : Int32) bb)) ||| (f_pl (own_blk g md n f (1 : Int32)) off (1 : Int32) bb)) ||| (f_pl (own_blk g md n f (2 : Int32)) off (2 : Int32) bb)) ||| (f_pl (own_blk g md n f (3 : Int32)) off (3 : Int32) bb))), (.int 0), (.ref b1)])) rfl (by rw [hml]; rfl) (argsL := [(.ref b1), (.int 0), (.long (((((0 : Int64) ||| (f_pl (own_blk g md n f (0 : Int32)) off (0 : Int32) bb)) ||| (f_pl (own_blk g md n f (1 : Int32)) off (1 : Int32) bb)) ||| (f_pl (own_blk g md n f (2 : Int32)) off (2 : Int32) bb)) ||| (f_pl (own_blk g md n f (3 : Int32)) off (3 : Int32) bb)))]) (rest := []) (lenOf pd_7 rfl) rfl (Nat.le_of_eq rfl) (hb hby at_457) (fun _ _ => ⟨rfl, e30, (by decide : 5 + 0 ≤ _), (by decide : 38 + 0 ≤ _)⟩)
  dsimp only [Pt.U, Pt.locs, Pt.cells, Pt.slots] at X32 l32 y32 z32 st32 hQ32
  subst l32 y32 z32
  obtain ⟨rfl, N32q, K32⟩ := hQ32
  have f33_0 := Nat.le_trans f29_0 K32.1
  have f33_1 := f29_1.keep K32
  have f33_2 := f29_2.keep K32 nin0
  have f33_3 := f29_3.keep K32 nin0
  have f33_4 := f29_4.keep K32 nin0
  have f33_5 := f29_5.keep K32 nin0
  have f33_6 := f29_6.keep K32 nin0
  have f33_7 := f29_7.keep K32 nin0
  have f33_8 := f29_8.keep K32 nin0
  have N32 := Fr.app N30 N32q
  refine Wp.back (U' := (T32.setTop (mkF m 460 #[.val (.int p0), .val (.int p1), .val (.int p2), .val (.int p3), .val (.int p4), .val (.int kk), .val (.int off), .val (.int n), .val (.int md), .val (.int g), .val (.int bb), .val (.ref pk), .val (.ref ce), .val (.ref b1), .val (.ref b5), .val (.long (((((0 : Int64) ||| (f_pl (own_blk g md n f (0 : Int32)) off (0 : Int32) bb)) ||| (f_pl (own_blk g md n f (1 : Int32)) off (1 : Int32) bb)) ||| (f_pl (own_blk g md n f (2 : Int32)) off (2 : Int32) bb)) ||| (f_pl (own_blk g md n f (3 : Int32)) off (3 : Int32) bb))), .second, .val (.int 1)] [(.int 1)]))) st32 ?_
  refine Wp.back (U' := (T32.setTop (mkF m 480 #[.val (.int p0), .val (.int p1), .val (.int p2), .val (.int p3), .val (.int p4), .val (.int kk), .val (.int off), .val (.int n), .val (.int md), .val (.int g), .val (.int bb), .val (.ref pk), .val (.ref ce), .val (.ref b1), .val (.ref b5), .val (.long (((((0 : Int64) ||| (f_pl (own_blk g md n f (0 : Int32)) off (0 : Int32) bb)) ||| (f_pl (own_blk g md n f (1 : Int32)) off (1 : Int32) bb)) ||| (f_pl (own_blk g md n f (2 : Int32)) off (2 : Int32) bb)) ||| (f_pl (own_blk g md n f (3 : Int32)) off (3 : Int32) bb))), .second, .val (.int 1)] [(.long (((((0 : Int64) ||| (f_pl (own_blk g md n f (0 : Int32)) off (0 : Int32) bb)) ||| (f_pl (own_blk g md n f (1 : Int32)) off (1 : Int32) bb)) ||| (f_pl (own_blk g md n f (2 : Int32)) off (2 : Int32) bb)) ||| (f_pl (own_blk g md n f (3 : Int32)) off (3 : Int32) bb))), (.int 1), (.ref b1)]))) (fun t k => XS.ifNo X32.here hx rfl (hb hby at_460) rfl ((if0 _ _).trans (feq (by decide)).1) (XT.iconstV X32.here hx rfl 1 (hb hby at_463) (by decide) (XS.goto X32.here hx rfl (pc0 := 464) (pc' := 468) rfl (hb hby at_464) (by decide) (by decide) (XS.istore X32.here hx rfl (hb hby at_468) rfl (l' := #[.val (.int p0), .val (.int p1), .val (.int p2), .val (.int p3), .val (.int p4), .val (.int kk), .val (.int off), .val (.int n), .val (.int md), .val (.int g), .val (.int bb), .val (.ref pk), .val (.ref ce), .val (.ref b1), .val (.ref b5), .val (.long (((((0 : Int64) ||| (f_pl (own_blk g md n f (0 : Int32)) off (0 : Int32) bb)) ||| (f_pl (own_blk g md n f (1 : Int32)) off (1 : Int32) bb)) ||| (f_pl (own_blk g md n f (2 : Int32)) off (2 : Int32) bb)) ||| (f_pl (own_blk g md n f (3 : Int32)) off (3 : Int32) bb))), .second, .val (.int 1)]) rfl (XS.iload X32.here hx rfl (hb hby at_470) rfl (XS.ifNo X32.here hx rfl (hb hby at_472) rfl ((if0 _ _).trans (feq (by decide)).1) (XS.aload X32.here hx rfl (hb hby at_475) rfl rfl (XT.iconstV X32.here hx rfl 1 (hb hby at_477) (by decide) (XS.lload X32.here hx rfl (hb hby at_478) rfl k))))))))) ?_
  obtain ⟨_, _, ⟨T34, L34, k34, n34⟩, -, X34, ⟨Lc34, hQ34, l34, y34, z34⟩, st34⟩ := Jvm.LawKit.callS X32 hx (y := Y9) hown (mvT hZ (ow hw 48 rfl)) (mvT hZ (ow hw 49 rfl)) (mvT hZ (ow hw 2 rfl)) (mvT hZ (ow hw 50 rfl)) (by decide) (backOf (W := 0) (rm_bo l Z a0 hw [] b1 (1 : Int32) (((((0 : Int64) ||| (f_pl (own_blk g md n f (0 : Int32)) off (0 : Int32) bb)) ||| (f_pl (own_blk g md n f (1 : Int32)) off (1 : Int32) bb)) ||| (f_pl (own_blk g md n f (2 : Int32)) off (2 : Int32) bb)) ||| (f_pl (own_blk g md n f (3 : Int32)) off (3 : Int32) bb)) k1 fB T32.heap n0 f33_0 f33_7 ⟨by decide, by decide⟩ (oI.2 (1 : Int32) (by decide) (by decide))) hZ (ow hw 50 rfl) (ow hw 2 rfl) (by decide) (by decide)) (g := (mkF m 480 #[.val (.int p0), .val (.int p1), .val (.int p2), .val (.int p3), .val (.int p4), .val (.int kk), .val (.int off), .val (.int n), .val (.int md), .val (.int g), .val (.int bb), .val (.ref pk), .val (.ref ce), .val (.ref b1), .val (.ref b5), .val (.long (((((0 : Int64) ||| (f_pl (own_blk g md n f (0 : Int32)) off (0 : Int32) bb)) ||| (f_pl (own_blk g md n f (1 : Int32)) off (1 : Int32) bb)) ||| (f_pl (own_blk g md n f (2 : Int32)) off (2 : Int32) bb)) ||| (f_pl (own_blk g md n f (3 : Int32)) off (3 : Int32) bb))), .second, .val (.int 1)] [(.long (((((0 : Int64) ||| (f_pl (own_blk g md n f (0 : Int32)) off (0 : Int32) bb)) ||| (f_pl (own_blk g md n f (1 : Int32)) off (1 : Int32) bb)) ||| (f_pl (own_blk g md n f (2 : Int32)) off (2 : Int32) bb)) ||| (f_pl (own_blk g md n f (3 : Int32)) off (3 : Int32) bb))), (.int 1), (.ref b1)])) rfl (by rw [hml]; rfl) (argsL := [(.ref b1), (.int 1), (.long (((((0 : Int64) ||| (f_pl (own_blk g md n f (0 : Int32)) off (0 : Int32) bb)) ||| (f_pl (own_blk g md n f (1 : Int32)) off (1 : Int32) bb)) ||| (f_pl (own_blk g md n f (2 : Int32)) off (2 : Int32) bb)) ||| (f_pl (own_blk g md n f (3 : Int32)) off (3 : Int32) bb)))]) (rest := []) (lenOf pd_7 rfl) rfl (Nat.le_of_eq rfl) (hb hby at_480) (fun _ _ => ⟨rfl, rfl, (by decide : 5 + 0 ≤ _), (by decide : 38 + 0 ≤ _)⟩)
  dsimp only [Pt.U, Pt.locs, Pt.cells, Pt.slots] at X34 l34 y34 z34 st34 hQ34
  subst l34 y34 z34
  obtain ⟨rfl, N34q, K34⟩ := hQ34
  have f35_0 := Nat.le_trans f33_0 K34.1
  have f35_1 := f33_1.keep K34
  have f35_2 := f33_2.keep K34 nin0
  have f35_3 := f33_3.keep K34 nin0
  have f35_4 := f33_4.keep K34 nin0
  have f35_5 := f33_5.keep K34 nin0
  have f35_6 := f33_6.keep K34 nin0
  have f35_7 := f33_7.keep K34 nin0
  have f35_8 := f33_8.keep K34 nin0
  have N34 := Fr.app N32 N34q
  refine Wp.back (U' := (T34.setTop (mkF m 483 #[.val (.int p0), .val (.int p1), .val (.int p2), .val (.int p3), .val (.int p4), .val (.int kk), .val (.int off), .val (.int n), .val (.int md), .val (.int g), .val (.int bb), .val (.ref pk), .val (.ref ce), .val (.ref b1), .val (.ref b5), .val (.long (((((0 : Int64) ||| (f_pl (own_blk g md n f (0 : Int32)) off (0 : Int32) bb)) ||| (f_pl (own_blk g md n f (1 : Int32)) off (1 : Int32) bb)) ||| (f_pl (own_blk g md n f (2 : Int32)) off (2 : Int32) bb)) ||| (f_pl (own_blk g md n f (3 : Int32)) off (3 : Int32) bb))), .second, .val (.int 1)] [(.int 1)]))) st34 ?_
  refine Wp.back (U' := (T34.setTop (mkF m 503 #[.val (.int p0), .val (.int p1), .val (.int p2), .val (.int p3), .val (.int p4), .val (.int kk), .val (.int off), .val (.int n), .val (.int md), .val (.int g), .val (.int bb), .val (.ref pk), .val (.ref ce), .val (.ref b1), .val (.ref b5), .val (.long (((((0 : Int64) ||| (f_pl (own_blk g md n f (0 : Int32)) off (0 : Int32) bb)) ||| (f_pl (own_blk g md n f (1 : Int32)) off (1 : Int32) bb)) ||| (f_pl (own_blk g md n f (2 : Int32)) off (2 : Int32) bb)) ||| (f_pl (own_blk g md n f (3 : Int32)) off (3 : Int32) bb))), .second, .val (.int 1)] [(.long (((((0 : Int64) ||| (f_pl (own_blk g md n f (0 : Int32)) off (0 : Int32) bb)) ||| (f_pl (own_blk g md n f (1 : Int32)) off (1 : Int32) bb)) ||| (f_pl (own_blk g md n f (2 : Int32)) off (2 : Int32) bb)) ||| (f_pl (own_blk g md n f (3 : Int32)) off (3 : Int32) bb))), (.int 2), (.ref b1)]))) (fun t k => XS.ifNo X34.here hx rfl (hb hby at_483) rfl ((if0 _ _).trans (feq (by decide)).1) (XT.iconstV X34.here hx rfl 1 (hb hby at_486) (by decide) (XS.goto X34.here hx rfl (pc0 := 487) (pc' := 491) rfl (hb hby at_487) (by decide) (by decide) (XS.istore X34.here hx rfl (hb hby at_491) rfl (l' := #[.val (.int p0), .val (.int p1), .val (.int p2), .val (.int p3), .val (.int p4), .val (.int kk), .val (.int off), .val (.int n), .val (.int md), .val (.int g), .val (.int bb), .val (.ref pk), .val (.ref ce), .val (.ref b1), .val (.ref b5), .val (.long (((((0 : Int64) ||| (f_pl (own_blk g md n f (0 : Int32)) off (0 : Int32) bb)) ||| (f_pl (own_blk g md n f (1 : Int32)) off (1 : Int32) bb)) ||| (f_pl (own_blk g md n f (2 : Int32)) off (2 : Int32) bb)) ||| (f_pl (own_blk g md n f (3 : Int32)) off (3 : Int32) bb))), .second, .val (.int 1)]) rfl (XS.iload X34.here hx rfl (hb hby at_493) rfl (XS.ifNo X34.here hx rfl (hb hby at_495) rfl ((if0 _ _).trans (feq (by decide)).1) (XS.aload X34.here hx rfl (hb hby at_498) rfl rfl (XT.iconstV X34.here hx rfl 2 (hb hby at_500) (by decide) (XS.lload X34.here hx rfl (hb hby at_501) rfl k))))))))) ?_
  obtain ⟨_, _, ⟨T36, L36, k36, n36⟩, -, X36, ⟨Lc36, hQ36, l36, y36, z36⟩, st36⟩ := Jvm.LawKit.callS X34 hx (y := Y9) hown (mvT hZ (ow hw 48 rfl)) (mvT hZ (ow hw 49 rfl)) (mvT hZ (ow hw 2 rfl)) (mvT hZ (ow hw 50 rfl)) (by decide) (backOf (W := 0) (rm_bo l Z a0 hw [] b1 (2 : Int32) (((((0 : Int64) ||| (f_pl (own_blk g md n f (0 : Int32)) off (0 : Int32) bb)) ||| (f_pl (own_blk g md n f (1 : Int32)) off (1 : Int32) bb)) ||| (f_pl (own_blk g md n f (2 : Int32)) off (2 : Int32) bb)) ||| (f_pl (own_blk g md n f (3 : Int32)) off (3 : Int32) bb)) k1 fB T34.heap n0 f35_0 f35_7 ⟨by decide, by decide⟩ (oI.2 (2 : Int32) (by decide) (by decide))) hZ (ow hw 50 rfl) (ow hw 2 rfl) (by decide) (by decide)) (g := (mkF m 503 #[.val (.int p0), .val (.int p1), .val (.int p2), .val (.int p3), .val (.int p4), .val (.int kk), .val (.int off), .val (.int n), .val (.int md), .val (.int g), .val (.int bb), .val (.ref pk), .val (.ref ce), .val (.ref b1), .val (.ref b5), .val (.long (((((0 : Int64) ||| (f_pl (own_blk g md n f (0 : Int32)) off (0 : Int32) bb)) ||| (f_pl (own_blk g md n f (1 : Int32)) off (1 : Int32) bb)) ||| (f_pl (own_blk g md n f (2 : Int32)) off (2 : Int32) bb)) ||| (f_pl (own_blk g md n f (3 : Int32)) off (3 : Int32) bb))), .second, .val (.int 1)] [(.long (((((0 : Int64) ||| (f_pl (own_blk g md n f (0 : Int32)) off (0 : Int32) bb)) ||| (f_pl (own_blk g md n f (1 : Int32)) off (1 : Int32) bb)) ||| (f_pl (own_blk g md n f (2 : Int32)) off (2 : Int32) bb)) ||| (f_pl (own_blk g md n f (3 : Int32)) off (3 : Int32) bb))), (.int 2), (.ref b1)])) rfl (by rw [hml]; rfl) (argsL := [(.ref b1), (.int 2), (.long (((((0 : Int64) ||| (f_pl (own_blk g md n f (0 : Int32)) off (0 : Int32) bb)) ||| (f_pl (own_blk g md n f (1 : Int32)) off (1 : Int32) bb)) ||| (f_pl (own_blk g md n f (2 : Int32)) off (2 : Int32) bb)) ||| (f_pl (own_blk g md n f (3 : Int32)) off (3 : Int32) bb)))]) (rest := []) (lenOf pd_7 rfl) rfl (Nat.le_of_eq rfl) (hb hby at_503) (fun _ _ => ⟨rfl, rfl, (by decide : 5 + 0 ≤ _), (by decide : 38 + 0 ≤ _)⟩)
  dsimp only [Pt.U, Pt.locs, Pt.cells, Pt.slots] at X36 l36 y36 z36 st36 hQ36
  subst l36 y36 z36
  obtain ⟨rfl, N36q, K36⟩ := hQ36
  have f37_0 := Nat.le_trans f35_0 K36.1
  have f37_1 := f35_1.keep K36
  have f37_2 := f35_2.keep K36 nin0
  have f37_3 := f35_3.keep K36 nin0
  have f37_4 := f35_4.keep K36 nin0
  have f37_5 := f35_5.keep K36 nin0
  have f37_6 := f35_6.keep K36 nin0
  have f37_7 := f35_7.keep K36 nin0
  have f37_8 := f35_8.keep K36 nin0
  have N36 := Fr.app N34 N36q
  refine Wp.back (U' := (T36.setTop (mkF m 506 #[.val (.int p0), .val (.int p1), .val (.int p2), .val (.int p3), .val (.int p4), .val (.int kk), .val (.int off), .val (.int n), .val (.int md), .val (.int g), .val (.int bb), .val (.ref pk), .val (.ref ce), .val (.ref b1), .val (.ref b5), .val (.long (((((0 : Int64) ||| (f_pl (own_blk g md n f (0 : Int32)) off (0 : Int32) bb)) ||| (f_pl (own_blk g md n f (1 : Int32)) off (1 : Int32) bb)) ||| (f_pl (own_blk g md n f (2 : Int32)) off (2 : Int32) bb)) ||| (f_pl (own_blk g md n f (3 : Int32)) off (3 : Int32) bb))), .second, .val (.int 1)] [(.int 1)]))) st36 ?_
  refine Wp.back (U' := (T36.setTop (mkF m 526 #[.val (.int p0), .val (.int p1), .val (.int p2), .val (.int p3), .val (.int p4), .val (.int kk), .val (.int off), .val (.int n), .val (.int md), .val (.int g), .val (.int bb), .val (.ref pk), .val (.ref ce), .val (.ref b1), .val (.ref b5), .val (.long (((((0 : Int64) ||| (f_pl (own_blk g md n f (0 : Int32)) off (0 : Int32) bb)) ||| (f_pl (own_blk g md n f (1 : Int32)) off (1 : Int32) bb)) ||| (f_pl (own_blk g md n f (2 : Int32)) off (2 : Int32) bb)) ||| (f_pl (own_blk g md n f (3 : Int32)) off (3 : Int32) bb))), .second, .val (.int 1)] [(.long (((((0 : Int64) ||| (f_pl (own_blk g md n f (0 : Int32)) off (0 : Int32) bb)) ||| (f_pl (own_blk g md n f (1 : Int32)) off (1 : Int32) bb)) ||| (f_pl (own_blk g md n f (2 : Int32)) off (2 : Int32) bb)) ||| (f_pl (own_blk g md n f (3 : Int32)) off (3 : Int32) bb))), (.int 3), (.ref b1)]))) (fun t k => XS.ifNo X36.here hx rfl (hb hby at_506) rfl ((if0 _ _).trans (feq (by decide)).1) (XT.iconstV X36.here hx rfl 1 (hb hby at_509) (by decide) (XS.goto X36.here hx rfl (pc0 := 510) (pc' := 514) rfl (hb hby at_510) (by decide) (by decide) (XS.istore X36.here hx rfl (hb hby at_514) rfl (l' := #[.val (.int p0), .val (.int p1), .val (.int p2), .val (.int p3), .val (.int p4), .val (.int kk), .val (.int off), .val (.int n), .val (.int md), .val (.int g), .val (.int bb), .val (.ref pk), .val (.ref ce), .val (.ref b1), .val (.ref b5), .val (.long (((((0 : Int64) ||| (f_pl (own_blk g md n f (0 : Int32)) off (0 : Int32) bb)) ||| (f_pl (own_blk g md n f (1 : Int32)) off (1 : Int32) bb)) ||| (f_pl (own_blk g md n f (2 : Int32)) off (2 : Int32) bb)) ||| (f_pl (own_blk g md n f (3 : Int32)) off (3 : Int32) bb))), .second, .val (.int 1)]) rfl (XS.iload X36.here hx rfl (hb hby at_516) rfl (XS.ifNo X36.here hx rfl (hb hby at_518) rfl ((if0 _ _).trans (feq (by decide)).1) (XS.aload X36.here hx rfl (hb hby at_521) rfl rfl (XT.iconstV X36.here hx rfl 3 (hb hby at_523) (by decide) (XS.lload X36.here hx rfl (hb hby at_524) rfl k))))))))) ?_
  obtain ⟨_, _, ⟨T38, L38, k38, n38⟩, -, X38, ⟨Lc38, hQ38, l38, y38, z38⟩, st38⟩ := Jvm.LawKit.callS X36 hx (y := Y9) hown (mvT hZ (ow hw 48 rfl)) (mvT hZ (ow hw 49 rfl)) (mvT hZ (ow hw 2 rfl)) (mvT hZ (ow hw 50 rfl)) (by decide) (backOf (W := 0) (rm_bo l Z a0 hw [] b1 (3 : Int32) (((((0 : Int64) ||| (f_pl (own_blk g md n f (0 : Int32)) off (0 : Int32) bb)) ||| (f_pl (own_blk g md n f (1 : Int32)) off (1 : Int32) bb)) ||| (f_pl (own_blk g md n f (2 : Int32)) off (2 : Int32) bb)) ||| (f_pl (own_blk g md n f (3 : Int32)) off (3 : Int32) bb)) k1 fB T36.heap n0 f37_0 f37_7 ⟨by decide, by decide⟩ (oI.2 (3 : Int32) (by decide) (by decide))) hZ (ow hw 50 rfl) (ow hw 2 rfl) (by decide) (by decide)) (g := (mkF m 526 #[.val (.int p0), .val (.int p1), .val (.int p2), .val (.int p3), .val (.int p4), .val (.int kk), .val (.int off), .val (.int n), .val (.int md), .val (.int g), .val (.int bb), .val (.ref pk), .val (.ref ce), .val (.ref b1), .val (.ref b5), .val (.long (((((0 : Int64) ||| (f_pl (own_blk g md n f (0 : Int32)) off (0 : Int32) bb)) ||| (f_pl (own_blk g md n f (1 : Int32)) off (1 : Int32) bb)) ||| (f_pl (own_blk g md n f (2 : Int32)) off (2 : Int32) bb)) ||| (f_pl (own_blk g md n f (3 : Int32)) off (3 : Int32) bb))), .second, .val (.int 1)] [(.long (((((0 : Int64) ||| (f_pl (own_blk g md n f (0 : Int32)) off (0 : Int32) bb)) ||| (f_pl (own_blk g md n f (1 : Int32)) off (1 : Int32) bb)) ||| (f_pl (own_blk g md n f (2 : Int32)) off (2 : Int32) bb)) ||| (f_pl (own_blk g md n f (3 : Int32)) off (3 : Int32) bb))), (.int 3), (.ref b1)])) rfl (by rw [hml]; rfl) (argsL := [(.ref b1), (.int 3), (.long (((((0 : Int64) ||| (f_pl (own_blk g md n f (0 : Int32)) off (0 : Int32) bb)) ||| (f_pl (own_blk g md n f (1 : Int32)) off (1 : Int32) bb)) ||| (f_pl (own_blk g md n f (2 : Int32)) off (2 : Int32) bb)) ||| (f_pl (own_blk g md n f (3 : Int32)) off (3 : Int32) bb)))]) (rest := []) (lenOf pd_7 rfl) rfl (Nat.le_of_eq rfl) (hb hby at_526) (fun _ _ => ⟨rfl, rfl, (by decide : 5 + 0 ≤ _), (by decide : 38 + 0 ≤ _)⟩)
  dsimp only [Pt.U, Pt.locs, Pt.cells, Pt.slots] at X38 l38 y38 z38 st38 hQ38
  subst l38 y38 z38
  obtain ⟨rfl, N38q, K38⟩ := hQ38
  have f39_0 := Nat.le_trans f37_0 K38.1
  have f39_1 := f37_1.keep K38
  have f39_2 := f37_2.keep K38 nin0
  have f39_3 := f37_3.keep K38 nin0
  have f39_4 := f37_4.keep K38 nin0
  have f39_5 := f37_5.keep K38 nin0
  have f39_6 := f37_6.keep K38 nin0
  have f39_7 := f37_7.keep K38 nin0
  have f39_8 := f37_8.keep K38 nin0
  have N38 := Fr.app N36 N38q
  refine Wp.back (U' := (T38.setTop (mkF m 529 #[.val (.int p0), .val (.int p1), .val (.int p2), .val (.int p3), .val (.int p4), .val (.int kk), .val (.int off), .val (.int n), .val (.int md), .val (.int g), .val (.int bb), .val (.ref pk), .val (.ref ce), .val (.ref b1), .val (.ref b5), .val (.long (((((0 : Int64) ||| (f_pl (own_blk g md n f (0 : Int32)) off (0 : Int32) bb)) ||| (f_pl (own_blk g md n f (1 : Int32)) off (1 : Int32) bb)) ||| (f_pl (own_blk g md n f (2 : Int32)) off (2 : Int32) bb)) ||| (f_pl (own_blk g md n f (3 : Int32)) off (3 : Int32) bb))), .second, .val (.int 1)] [(.int 1)]))) st38 ?_
  refine Wp.back (U' := (T38.setTop (mkF m 549 #[.val (.int p0), .val (.int p1), .val (.int p2), .val (.int p3), .val (.int p4), .val (.int kk), .val (.int off), .val (.int n), .val (.int md), .val (.int g), .val (.int bb), .val (.ref pk), .val (.ref ce), .val (.ref b1), .val (.ref b5), .val (.long (((((0 : Int64) ||| (f_pl (own_blk g md n f (0 : Int32)) off (0 : Int32) bb)) ||| (f_pl (own_blk g md n f (1 : Int32)) off (1 : Int32) bb)) ||| (f_pl (own_blk g md n f (2 : Int32)) off (2 : Int32) bb)) ||| (f_pl (own_blk g md n f (3 : Int32)) off (3 : Int32) bb))), .second, .val (.int 1)] [(.long (((((0 : Int64) ||| (f_pl (own_blk g md n f (0 : Int32)) off (0 : Int32) bb)) ||| (f_pl (own_blk g md n f (1 : Int32)) off (1 : Int32) bb)) ||| (f_pl (own_blk g md n f (2 : Int32)) off (2 : Int32) bb)) ||| (f_pl (own_blk g md n f (3 : Int32)) off (3 : Int32) bb))), (.int 4), (.ref b1)]))) (fun t k => XS.ifNo X38.here hx rfl (hb hby at_529) rfl ((if0 _ _).trans (feq (by decide)).1) (XT.iconstV X38.here hx rfl 1 (hb hby at_532) (by decide) (XS.goto X38.here hx rfl (pc0 := 533) (pc' := 537) rfl (hb hby at_533) (by decide) (by decide) (XS.istore X38.here hx rfl (hb hby at_537) rfl (l' := #[.val (.int p0), .val (.int p1), .val (.int p2), .val (.int p3), .val (.int p4), .val (.int kk), .val (.int off), .val (.int n), .val (.int md), .val (.int g), .val (.int bb), .val (.ref pk), .val (.ref ce), .val (.ref b1), .val (.ref b5), .val (.long (((((0 : Int64) ||| (f_pl (own_blk g md n f (0 : Int32)) off (0 : Int32) bb)) ||| (f_pl (own_blk g md n f (1 : Int32)) off (1 : Int32) bb)) ||| (f_pl (own_blk g md n f (2 : Int32)) off (2 : Int32) bb)) ||| (f_pl (own_blk g md n f (3 : Int32)) off (3 : Int32) bb))), .second, .val (.int 1)]) rfl (XS.iload X38.here hx rfl (hb hby at_539) rfl (XS.ifNo X38.here hx rfl (hb hby at_541) rfl ((if0 _ _).trans (feq (by decide)).1) (XS.aload X38.here hx rfl (hb hby at_544) rfl rfl (XT.iconstV X38.here hx rfl 4 (hb hby at_546) (by decide) (XS.lload X38.here hx rfl (hb hby at_547) rfl k))))))))) ?_
  obtain ⟨_, _, ⟨T40, L40, k40, n40⟩, -, X40, ⟨Lc40, hQ40, l40, y40, z40⟩, st40⟩ := Jvm.LawKit.callS X38 hx (y := Y9) hown (mvT hZ (ow hw 48 rfl)) (mvT hZ (ow hw 49 rfl)) (mvT hZ (ow hw 2 rfl)) (mvT hZ (ow hw 50 rfl)) (by decide) (backOf (W := 0) (rm_bo l Z a0 hw [] b1 (4 : Int32) (((((0 : Int64) ||| (f_pl (own_blk g md n f (0 : Int32)) off (0 : Int32) bb)) ||| (f_pl (own_blk g md n f (1 : Int32)) off (1 : Int32) bb)) ||| (f_pl (own_blk g md n f (2 : Int32)) off (2 : Int32) bb)) ||| (f_pl (own_blk g md n f (3 : Int32)) off (3 : Int32) bb)) k1 fB T38.heap n0 f39_0 f39_7 ⟨by decide, by decide⟩ (oI.2 (4 : Int32) (by decide) (by decide))) hZ (ow hw 50 rfl) (ow hw 2 rfl) (by decide) (by decide)) (g := (mkF m 549 #[.val (.int p0), .val (.int p1), .val (.int p2), .val (.int p3), .val (.int p4), .val (.int kk), .val (.int off), .val (.int n), .val (.int md), .val (.int g), .val (.int bb), .val (.ref pk), .val (.ref ce), .val (.ref b1), .val (.ref b5), .val (.long (((((0 : Int64) ||| (f_pl (own_blk g md n f (0 : Int32)) off (0 : Int32) bb)) ||| (f_pl (own_blk g md n f (1 : Int32)) off (1 : Int32) bb)) ||| (f_pl (own_blk g md n f (2 : Int32)) off (2 : Int32) bb)) ||| (f_pl (own_blk g md n f (3 : Int32)) off (3 : Int32) bb))), .second, .val (.int 1)] [(.long (((((0 : Int64) ||| (f_pl (own_blk g md n f (0 : Int32)) off (0 : Int32) bb)) ||| (f_pl (own_blk g md n f (1 : Int32)) off (1 : Int32) bb)) ||| (f_pl (own_blk g md n f (2 : Int32)) off (2 : Int32) bb)) ||| (f_pl (own_blk g md n f (3 : Int32)) off (3 : Int32) bb))), (.int 4), (.ref b1)])) rfl (by rw [hml]; rfl) (argsL := [(.ref b1), (.int 4), (.long (((((0 : Int64) ||| (f_pl (own_blk g md n f (0 : Int32)) off (0 : Int32) bb)) ||| (f_pl (own_blk g md n f (1 : Int32)) off (1 : Int32) bb)) ||| (f_pl (own_blk g md n f (2 : Int32)) off (2 : Int32) bb)) ||| (f_pl (own_blk g md n f (3 : Int32)) off (3 : Int32) bb)))]) (rest := []) (lenOf pd_7 rfl) rfl (Nat.le_of_eq rfl) (hb hby at_549) (fun _ _ => ⟨rfl, rfl, (by decide : 5 + 0 ≤ _), (by decide : 38 + 0 ≤ _)⟩)
  dsimp only [Pt.U, Pt.locs, Pt.cells, Pt.slots] at X40 l40 y40 z40 st40 hQ40
  subst l40 y40 z40
  obtain ⟨rfl, N40q, K40⟩ := hQ40
  have f41_0 := Nat.le_trans f39_0 K40.1
  have f41_1 := f39_1.keep K40
  have f41_2 := f39_2.keep K40 nin0
  have f41_3 := f39_3.keep K40 nin0
  have f41_4 := f39_4.keep K40 nin0
  have f41_5 := f39_5.keep K40 nin0
  have f41_6 := f39_6.keep K40 nin0
  have f41_7 := f39_7.keep K40 nin0
  have f41_8 := f39_8.keep K40 nin0
  have N40 := Fr.app N38 N40q
  refine Wp.back (U' := (T40.setTop (mkF m 552 #[.val (.int p0), .val (.int p1), .val (.int p2), .val (.int p3), .val (.int p4), .val (.int kk), .val (.int off), .val (.int n), .val (.int md), .val (.int g), .val (.int bb), .val (.ref pk), .val (.ref ce), .val (.ref b1), .val (.ref b5), .val (.long (((((0 : Int64) ||| (f_pl (own_blk g md n f (0 : Int32)) off (0 : Int32) bb)) ||| (f_pl (own_blk g md n f (1 : Int32)) off (1 : Int32) bb)) ||| (f_pl (own_blk g md n f (2 : Int32)) off (2 : Int32) bb)) ||| (f_pl (own_blk g md n f (3 : Int32)) off (3 : Int32) bb))), .second, .val (.int 1)] [(.int 1)]))) st40 ?_
  refine Wp.back (U' := (T40.setTop (mkF m 572 #[.val (.int p0), .val (.int p1), .val (.int p2), .val (.int p3), .val (.int p4), .val (.int kk), .val (.int off), .val (.int n), .val (.int md), .val (.int g), .val (.int bb), .val (.ref pk), .val (.ref ce), .val (.ref b1), .val (.ref b5), .val (.long (((((0 : Int64) ||| (f_pl (own_blk g md n f (0 : Int32)) off (0 : Int32) bb)) ||| (f_pl (own_blk g md n f (1 : Int32)) off (1 : Int32) bb)) ||| (f_pl (own_blk g md n f (2 : Int32)) off (2 : Int32) bb)) ||| (f_pl (own_blk g md n f (3 : Int32)) off (3 : Int32) bb))), .second, .val (.int 1)] [(.long (((((0 : Int64) ||| (f_pl (own_blk g md n f (0 : Int32)) off (0 : Int32) bb)) ||| (f_pl (own_blk g md n f (1 : Int32)) off (1 : Int32) bb)) ||| (f_pl (own_blk g md n f (2 : Int32)) off (2 : Int32) bb)) ||| (f_pl (own_blk g md n f (3 : Int32)) off (3 : Int32) bb))), (.int 5), (.ref b1)]))) (fun t k => XS.ifNo X40.here hx rfl (hb hby at_552) rfl ((if0 _ _).trans (feq (by decide)).1) (XT.iconstV X40.here hx rfl 1 (hb hby at_555) (by decide) (XS.goto X40.here hx rfl (pc0 := 556) (pc' := 560) rfl (hb hby at_556) (by decide) (by decide) (XS.istore X40.here hx rfl (hb hby at_560) rfl (l' := #[.val (.int p0), .val (.int p1), .val (.int p2), .val (.int p3), .val (.int p4), .val (.int kk), .val (.int off), .val (.int n), .val (.int md), .val (.int g), .val (.int bb), .val (.ref pk), .val (.ref ce), .val (.ref b1), .val (.ref b5), .val (.long (((((0 : Int64) ||| (f_pl (own_blk g md n f (0 : Int32)) off (0 : Int32) bb)) ||| (f_pl (own_blk g md n f (1 : Int32)) off (1 : Int32) bb)) ||| (f_pl (own_blk g md n f (2 : Int32)) off (2 : Int32) bb)) ||| (f_pl (own_blk g md n f (3 : Int32)) off (3 : Int32) bb))), .second, .val (.int 1)]) rfl (XS.iload X40.here hx rfl (hb hby at_562) rfl (XS.ifNo X40.here hx rfl (hb hby at_564) rfl ((if0 _ _).trans (feq (by decide)).1) (XS.aload X40.here hx rfl (hb hby at_567) rfl rfl (XT.iconstV X40.here hx rfl 5 (hb hby at_569) (by decide) (XS.lload X40.here hx rfl (hb hby at_570) rfl k))))))))) ?_
  obtain ⟨_, _, ⟨T42, L42, k42, n42⟩, -, X42, ⟨Lc42, hQ42, l42, y42, z42⟩, st42⟩ := Jvm.LawKit.callS X40 hx (y := Y9) hown (mvT hZ (ow hw 48 rfl)) (mvT hZ (ow hw 49 rfl)) (mvT hZ (ow hw 2 rfl)) (mvT hZ (ow hw 50 rfl)) (by decide) (backOf (W := 0) (rm_bo l Z a0 hw [] b1 (5 : Int32) (((((0 : Int64) ||| (f_pl (own_blk g md n f (0 : Int32)) off (0 : Int32) bb)) ||| (f_pl (own_blk g md n f (1 : Int32)) off (1 : Int32) bb)) ||| (f_pl (own_blk g md n f (2 : Int32)) off (2 : Int32) bb)) ||| (f_pl (own_blk g md n f (3 : Int32)) off (3 : Int32) bb)) k1 fB T40.heap n0 f41_0 f41_7 ⟨by decide, by decide⟩ (oI.2 (5 : Int32) (by decide) (by decide))) hZ (ow hw 50 rfl) (ow hw 2 rfl) (by decide) (by decide)) (g := (mkF m 572 #[.val (.int p0), .val (.int p1), .val (.int p2), .val (.int p3), .val (.int p4), .val (.int kk), .val (.int off), .val (.int n), .val (.int md), .val (.int g), .val (.int bb), .val (.ref pk), .val (.ref ce), .val (.ref b1), .val (.ref b5), .val (.long (((((0 : Int64) ||| (f_pl (own_blk g md n f (0 : Int32)) off (0 : Int32) bb)) ||| (f_pl (own_blk g md n f (1 : Int32)) off (1 : Int32) bb)) ||| (f_pl (own_blk g md n f (2 : Int32)) off (2 : Int32) bb)) ||| (f_pl (own_blk g md n f (3 : Int32)) off (3 : Int32) bb))), .second, .val (.int 1)] [(.long (((((0 : Int64) ||| (f_pl (own_blk g md n f (0 : Int32)) off (0 : Int32) bb)) ||| (f_pl (own_blk g md n f (1 : Int32)) off (1 : Int32) bb)) ||| (f_pl (own_blk g md n f (2 : Int32)) off (2 : Int32) bb)) ||| (f_pl (own_blk g md n f (3 : Int32)) off (3 : Int32) bb))), (.int 5), (.ref b1)])) rfl (by rw [hml]; rfl) (argsL := [(.ref b1), (.int 5), (.long (((((0 : Int64) ||| (f_pl (own_blk g md n f (0 : Int32)) off (0 : Int32) bb)) ||| (f_pl (own_blk g md n f (1 : Int32)) off (1 : Int32) bb)) ||| (f_pl (own_blk g md n f (2 : Int32)) off (2 : Int32) bb)) ||| (f_pl (own_blk g md n f (3 : Int32)) off (3 : Int32) bb)))]) (rest := []) (lenOf pd_7 rfl) rfl (Nat.le_of_eq rfl) (hb hby at_572) (fun _ _ => ⟨rfl, rfl, (by decide : 5 + 0 ≤ _), (by decide : 38 + 0 ≤ _)⟩)
  dsimp only [Pt.U, Pt.locs, Pt.cells, Pt.slots] at X42 l42 y42 z42 st42 hQ42
  subst l42 y42 z42
  obtain ⟨rfl, N42q, K42⟩ := hQ42
  have f43_0 := Nat.le_trans f41_0 K42.1
  have f43_1 := f41_1.keep K42
  have f43_2 := f41_2.keep K42 nin0
  have f43_3 := f41_3.keep K42 nin0
  have f43_4 := f41_4.keep K42 nin0
  have f43_5 := f41_5.keep K42 nin0
  have f43_6 := f41_6.keep K42 nin0
  have f43_7 := f41_7.keep K42 nin0
  have f43_8 := f41_8.keep K42 nin0
  have N42 := Fr.app N40 N42q
  refine Wp.back (U' := (T42.setTop (mkF m 575 #[.val (.int p0), .val (.int p1), .val (.int p2), .val (.int p3), .val (.int p4), .val (.int kk), .val (.int off), .val (.int n), .val (.int md), .val (.int g), .val (.int bb), .val (.ref pk), .val (.ref ce), .val (.ref b1), .val (.ref b5), .val (.long (((((0 : Int64) ||| (f_pl (own_blk g md n f (0 : Int32)) off (0 : Int32) bb)) ||| (f_pl (own_blk g md n f (1 : Int32)) off (1 : Int32) bb)) ||| (f_pl (own_blk g md n f (2 : Int32)) off (2 : Int32) bb)) ||| (f_pl (own_blk g md n f (3 : Int32)) off (3 : Int32) bb))), .second, .val (.int 1)] [(.int 1)]))) st42 ?_
  refine Wp.back (U' := (T42.setTop (mkF m 596 #[.val (.int p0), .val (.int p1), .val (.int p2), .val (.int p3), .val (.int p4), .val (.int kk), .val (.int off), .val (.int n), .val (.int md), .val (.int g), .val (.int bb), .val (.ref pk), .val (.ref ce), .val (.ref b1), .val (.ref b5), .val (.long (((((0 : Int64) ||| (f_pl (own_blk g md n f (0 : Int32)) off (0 : Int32) bb)) ||| (f_pl (own_blk g md n f (1 : Int32)) off (1 : Int32) bb)) ||| (f_pl (own_blk g md n f (2 : Int32)) off (2 : Int32) bb)) ||| (f_pl (own_blk g md n f (3 : Int32)) off (3 : Int32) bb))), .second, .val (.int 1)] [(.long (((((0 : Int64) ||| (f_pl (own_blk g md n f (0 : Int32)) off (0 : Int32) bb)) ||| (f_pl (own_blk g md n f (1 : Int32)) off (1 : Int32) bb)) ||| (f_pl (own_blk g md n f (2 : Int32)) off (2 : Int32) bb)) ||| (f_pl (own_blk g md n f (3 : Int32)) off (3 : Int32) bb))), (.int 6), (.ref b1)]))) (fun t k => XS.ifNo X42.here hx rfl (hb hby at_575) rfl ((if0 _ _).trans (feq (by decide)).1) (XT.iconstV X42.here hx rfl 1 (hb hby at_578) (by decide) (XS.goto X42.here hx rfl (pc0 := 579) (pc' := 583) rfl (hb hby at_579) (by decide) (by decide) (XS.istore X42.here hx rfl (hb hby at_583) rfl (l' := #[.val (.int p0), .val (.int p1), .val (.int p2), .val (.int p3), .val (.int p4), .val (.int kk), .val (.int off), .val (.int n), .val (.int md), .val (.int g), .val (.int bb), .val (.ref pk), .val (.ref ce), .val (.ref b1), .val (.ref b5), .val (.long (((((0 : Int64) ||| (f_pl (own_blk g md n f (0 : Int32)) off (0 : Int32) bb)) ||| (f_pl (own_blk g md n f (1 : Int32)) off (1 : Int32) bb)) ||| (f_pl (own_blk g md n f (2 : Int32)) off (2 : Int32) bb)) ||| (f_pl (own_blk g md n f (3 : Int32)) off (3 : Int32) bb))), .second, .val (.int 1)]) rfl (XS.iload X42.here hx rfl (hb hby at_585) rfl (XS.ifNo X42.here hx rfl (hb hby at_587) rfl ((if0 _ _).trans (feq (by decide)).1) (XS.aload X42.here hx rfl (hb hby at_590) rfl rfl (XT.bipushV X42.here hx rfl 6 (hb hby at_592) (by decide) (XS.lload X42.here hx rfl (hb hby at_594) rfl k))))))))) ?_
  obtain ⟨_, _, ⟨T44, L44, k44, n44⟩, -, X44, ⟨Lc44, hQ44, l44, y44, z44⟩, st44⟩ := Jvm.LawKit.callS X42 hx (y := Y9) hown (mvT hZ (ow hw 48 rfl)) (mvT hZ (ow hw 49 rfl)) (mvT hZ (ow hw 2 rfl)) (mvT hZ (ow hw 50 rfl)) (by decide) (backOf (W := 0) (rm_bo l Z a0 hw [] b1 (6 : Int32) (((((0 : Int64) ||| (f_pl (own_blk g md n f (0 : Int32)) off (0 : Int32) bb)) ||| (f_pl (own_blk g md n f (1 : Int32)) off (1 : Int32) bb)) ||| (f_pl (own_blk g md n f (2 : Int32)) off (2 : Int32) bb)) ||| (f_pl (own_blk g md n f (3 : Int32)) off (3 : Int32) bb)) k1 fB T42.heap n0 f43_0 f43_7 ⟨by decide, by decide⟩ (oI.2 (6 : Int32) (by decide) (by decide))) hZ (ow hw 50 rfl) (ow hw 2 rfl) (by decide) (by decide)) (g := (mkF m 596 #[.val (.int p0), .val (.int p1), .val (.int p2), .val (.int p3), .val (.int p4), .val (.int kk), .val (.int off), .val (.int n), .val (.int md), .val (.int g), .val (.int bb), .val (.ref pk), .val (.ref ce), .val (.ref b1), .val (.ref b5), .val (.long (((((0 : Int64) ||| (f_pl (own_blk g md n f (0 : Int32)) off (0 : Int32) bb)) ||| (f_pl (own_blk g md n f (1 : Int32)) off (1 : Int32) bb)) ||| (f_pl (own_blk g md n f (2 : Int32)) off (2 : Int32) bb)) ||| (f_pl (own_blk g md n f (3 : Int32)) off (3 : Int32) bb))), .second, .val (.int 1)] [(.long (((((0 : Int64) ||| (f_pl (own_blk g md n f (0 : Int32)) off (0 : Int32) bb)) ||| (f_pl (own_blk g md n f (1 : Int32)) off (1 : Int32) bb)) ||| (f_pl (own_blk g md n f (2 : Int32)) off (2 : Int32) bb)) ||| (f_pl (own_blk g md n f (3 : Int32)) off (3 : Int32) bb))), (.int 6), (.ref b1)])) rfl (by rw [hml]; rfl) (argsL := [(.ref b1), (.int 6), (.long (((((0 : Int64) ||| (f_pl (own_blk g md n f (0 : Int32)) off (0 : Int32) bb)) ||| (f_pl (own_blk g md n f (1 : Int32)) off (1 : Int32) bb)) ||| (f_pl (own_blk g md n f (2 : Int32)) off (2 : Int32) bb)) ||| (f_pl (own_blk g md n f (3 : Int32)) off (3 : Int32) bb)))]) (rest := []) (lenOf pd_7 rfl) rfl (Nat.le_of_eq rfl) (hb hby at_596) (fun _ _ => ⟨rfl, rfl, (by decide : 5 + 0 ≤ _), (by decide : 38 + 0 ≤ _)⟩)
  dsimp only [Pt.U, Pt.locs, Pt.cells, Pt.slots] at X44 l44 y44 z44 st44 hQ44
  subst l44 y44 z44
  obtain ⟨rfl, N44q, K44⟩ := hQ44
  have f45_0 := Nat.le_trans f43_0 K44.1
  have f45_1 := f43_1.keep K44
  have f45_2 := f43_2.keep K44 nin0
  have f45_3 := f43_3.keep K44 nin0
  have f45_4 := f43_4.keep K44 nin0
  have f45_5 := f43_5.keep K44 nin0
  have f45_6 := f43_6.keep K44 nin0
  have f45_7 := f43_7.keep K44 nin0
  have f45_8 := f43_8.keep K44 nin0
  have N44 := Fr.app N42 N44q
  refine Wp.back (U' := (T44.setTop (mkF m 599 #[.val (.int p0), .val (.int p1), .val (.int p2), .val (.int p3), .val (.int p4), .val (.int kk), .val (.int off), .val (.int n), .val (.int md), .val (.int g), .val (.int bb), .val (.ref pk), .val (.ref ce), .val (.ref b1), .val (.ref b5), .val (.long (((((0 : Int64) ||| (f_pl (own_blk g md n f (0 : Int32)) off (0 : Int32) bb)) ||| (f_pl (own_blk g md n f (1 : Int32)) off (1 : Int32) bb)) ||| (f_pl (own_blk g md n f (2 : Int32)) off (2 : Int32) bb)) ||| (f_pl (own_blk g md n f (3 : Int32)) off (3 : Int32) bb))), .second, .val (.int 1)] [(.int 1)]))) st44 ?_
  refine Wp.back (U' := (T44.setTop (mkF m 620 #[.val (.int p0), .val (.int p1), .val (.int p2), .val (.int p3), .val (.int p4), .val (.int kk), .val (.int off), .val (.int n), .val (.int md), .val (.int g), .val (.int bb), .val (.ref pk), .val (.ref ce), .val (.ref b1), .val (.ref b5), .val (.long (((((0 : Int64) ||| (f_pl (own_blk g md n f (0 : Int32)) off (0 : Int32) bb)) ||| (f_pl (own_blk g md n f (1 : Int32)) off (1 : Int32) bb)) ||| (f_pl (own_blk g md n f (2 : Int32)) off (2 : Int32) bb)) ||| (f_pl (own_blk g md n f (3 : Int32)) off (3 : Int32) bb))), .second, .val (.int 1)] [(.long (((((0 : Int64) ||| (f_pl (own_blk g md n f (0 : Int32)) off (0 : Int32) bb)) ||| (f_pl (own_blk g md n f (1 : Int32)) off (1 : Int32) bb)) ||| (f_pl (own_blk g md n f (2 : Int32)) off (2 : Int32) bb)) ||| (f_pl (own_blk g md n f (3 : Int32)) off (3 : Int32) bb))), (.int 7), (.ref b1)]))) (fun t k => XS.ifNo X44.here hx rfl (hb hby at_599) rfl ((if0 _ _).trans (feq (by decide)).1) (XT.iconstV X44.here hx rfl 1 (hb hby at_602) (by decide) (XS.goto X44.here hx rfl (pc0 := 603) (pc' := 607) rfl (hb hby at_603) (by decide) (by decide) (XS.istore X44.here hx rfl (hb hby at_607) rfl (l' := #[.val (.int p0), .val (.int p1), .val (.int p2), .val (.int p3), .val (.int p4), .val (.int kk), .val (.int off), .val (.int n), .val (.int md), .val (.int g), .val (.int bb), .val (.ref pk), .val (.ref ce), .val (.ref b1), .val (.ref b5), .val (.long (((((0 : Int64) ||| (f_pl (own_blk g md n f (0 : Int32)) off (0 : Int32) bb)) ||| (f_pl (own_blk g md n f (1 : Int32)) off (1 : Int32) bb)) ||| (f_pl (own_blk g md n f (2 : Int32)) off (2 : Int32) bb)) ||| (f_pl (own_blk g md n f (3 : Int32)) off (3 : Int32) bb))), .second, .val (.int 1)]) rfl (XS.iload X44.here hx rfl (hb hby at_609) rfl (XS.ifNo X44.here hx rfl (hb hby at_611) rfl ((if0 _ _).trans (feq (by decide)).1) (XS.aload X44.here hx rfl (hb hby at_614) rfl rfl (XT.bipushV X44.here hx rfl 7 (hb hby at_616) (by decide) (XS.lload X44.here hx rfl (hb hby at_618) rfl k))))))))) ?_
  obtain ⟨_, _, ⟨T46, L46, k46, n46⟩, -, X46, ⟨Lc46, hQ46, l46, y46, z46⟩, st46⟩ := Jvm.LawKit.callS X44 hx (y := Y9) hown (mvT hZ (ow hw 48 rfl)) (mvT hZ (ow hw 49 rfl)) (mvT hZ (ow hw 2 rfl)) (mvT hZ (ow hw 50 rfl)) (by decide) (backOf (W := 0) (rm_bo l Z a0 hw [] b1 (7 : Int32) (((((0 : Int64) ||| (f_pl (own_blk g md n f (0 : Int32)) off (0 : Int32) bb)) ||| (f_pl (own_blk g md n f (1 : Int32)) off (1 : Int32) bb)) ||| (f_pl (own_blk g md n f (2 : Int32)) off (2 : Int32) bb)) ||| (f_pl (own_blk g md n f (3 : Int32)) off (3 : Int32) bb)) k1 fB T44.heap n0 f45_0 f45_7 ⟨by decide, by decide⟩ (oI.2 (7 : Int32) (by decide) (by decide))) hZ (ow hw 50 rfl) (ow hw 2 rfl) (by decide) (by decide)) (g := (mkF m 620 #[.val (.int p0), .val (.int p1), .val (.int p2), .val (.int p3), .val (.int p4), .val (.int kk), .val (.int off), .val (.int n), .val (.int md), .val (.int g), .val (.int bb), .val (.ref pk), .val (.ref ce), .val (.ref b1), .val (.ref b5), .val (.long (((((0 : Int64) ||| (f_pl (own_blk g md n f (0 : Int32)) off (0 : Int32) bb)) ||| (f_pl (own_blk g md n f (1 : Int32)) off (1 : Int32) bb)) ||| (f_pl (own_blk g md n f (2 : Int32)) off (2 : Int32) bb)) ||| (f_pl (own_blk g md n f (3 : Int32)) off (3 : Int32) bb))), .second, .val (.int 1)] [(.long (((((0 : Int64) ||| (f_pl (own_blk g md n f (0 : Int32)) off (0 : Int32) bb)) ||| (f_pl (own_blk g md n f (1 : Int32)) off (1 : Int32) bb)) ||| (f_pl (own_blk g md n f (2 : Int32)) off (2 : Int32) bb)) ||| (f_pl (own_blk g md n f (3 : Int32)) off (3 : Int32) bb))), (.int 7), (.ref b1)])) rfl (by rw [hml]; rfl) (argsL := [(.ref b1), (.int 7), (.long (((((0 : Int64) ||| (f_pl (own_blk g md n f (0 : Int32)) off (0 : Int32) bb)) ||| (f_pl (own_blk g md n f (1 : Int32)) off (1 : Int32) bb)) ||| (f_pl (own_blk g md n f (2 : Int32)) off (2 : Int32) bb)) ||| (f_pl (own_blk g md n f (3 : Int32)) off (3 : Int32) bb)))]) (rest := []) (lenOf pd_7 rfl) rfl (Nat.le_of_eq rfl) (hb hby at_620) (fun _ _ => ⟨rfl, rfl, (by decide : 5 + 0 ≤ _), (by decide : 38 + 0 ≤ _)⟩)
  dsimp only [Pt.U, Pt.locs, Pt.cells, Pt.slots] at X46 l46 y46 z46 st46 hQ46
  subst l46 y46 z46
  obtain ⟨rfl, N46q, K46⟩ := hQ46
  have f47_0 := Nat.le_trans f45_0 K46.1
  have f47_1 := f45_1.keep K46
  have f47_2 := f45_2.keep K46 nin0
  have f47_3 := f45_3.keep K46 nin0
  have f47_4 := f45_4.keep K46 nin0
  have f47_5 := f45_5.keep K46 nin0
  have f47_6 := f45_6.keep K46 nin0
  have f47_7 := f45_7.keep K46 nin0
  have f47_8 := f45_8.keep K46 nin0
  have N46 := Fr.app N44 N46q
  refine Wp.back (U' := (T46.setTop (mkF m 623 #[.val (.int p0), .val (.int p1), .val (.int p2), .val (.int p3), .val (.int p4), .val (.int kk), .val (.int off), .val (.int n), .val (.int md), .val (.int g), .val (.int bb), .val (.ref pk), .val (.ref ce), .val (.ref b1), .val (.ref b5), .val (.long (((((0 : Int64) ||| (f_pl (own_blk g md n f (0 : Int32)) off (0 : Int32) bb)) ||| (f_pl (own_blk g md n f (1 : Int32)) off (1 : Int32) bb)) ||| (f_pl (own_blk g md n f (2 : Int32)) off (2 : Int32) bb)) ||| (f_pl (own_blk g md n f (3 : Int32)) off (3 : Int32) bb))), .second, .val (.int 1)] [(.int 1)]))) st46 ?_
  refine Wp.back (U' := (T46.setTop (mkF m 635 #[.val (.int p0), .val (.int p1), .val (.int p2), .val (.int p3), .val (.int p4), .val (.int kk), .val (.int off), .val (.int n), .val (.int md), .val (.int g), .val (.int bb), .val (.ref pk), .val (.ref ce), .val (.ref b1), .val (.ref b5), .val (.long (((((0 : Int64) ||| (f_pl (own_blk g md n f (0 : Int32)) off (0 : Int32) bb)) ||| (f_pl (own_blk g md n f (1 : Int32)) off (1 : Int32) bb)) ||| (f_pl (own_blk g md n f (2 : Int32)) off (2 : Int32) bb)) ||| (f_pl (own_blk g md n f (3 : Int32)) off (3 : Int32) bb))), .second, .val (.int 1)] [(.int 1)]))) (fun t k => XS.ifNo X46.here hx rfl (hb hby at_623) rfl ((if0 _ _).trans (feq (by decide)).1) (XT.iconstV X46.here hx rfl 1 (hb hby at_626) (by decide) (XS.goto X46.here hx rfl (pc0 := 627) (pc' := 631) rfl (hb hby at_627) (by decide) (by decide) (XS.istore X46.here hx rfl (hb hby at_631) rfl (l' := #[.val (.int p0), .val (.int p1), .val (.int p2), .val (.int p3), .val (.int p4), .val (.int kk), .val (.int off), .val (.int n), .val (.int md), .val (.int g), .val (.int bb), .val (.ref pk), .val (.ref ce), .val (.ref b1), .val (.ref b5), .val (.long (((((0 : Int64) ||| (f_pl (own_blk g md n f (0 : Int32)) off (0 : Int32) bb)) ||| (f_pl (own_blk g md n f (1 : Int32)) off (1 : Int32) bb)) ||| (f_pl (own_blk g md n f (2 : Int32)) off (2 : Int32) bb)) ||| (f_pl (own_blk g md n f (3 : Int32)) off (3 : Int32) bb))), .second, .val (.int 1)]) rfl (XS.iload X46.here hx rfl (hb hby at_633) rfl k))))) ?_
  obtain ⟨fs, hr, hrun, hended, hW, hsame⟩ := X46.leave (v := (some (.int 1))) (fun h => by rw [hret] at h; cases h)
  refine Wp.done (retN X46 hx (t := .boolean) hret (by simp) (hb hby at_635) hr) hrun hended ⟨_, _, rfl, ?_, ⟨_, rfl⟩, hW, hsame.mono (by decide) (by decide)⟩
  show QL n0 _ T46.heap _
  exact ⟨rfl, N46⟩
def own_f4 (c0 c1 c2 c3 : Int32) : Int32 → Int32 := fun i => if i = 0 then c0 else if i = 1 then c1 else if i = 2 then c2 else if i = 3 then c3 else 0
theorem own_n4 {n : Int32} (h : n.toInt ≤ 4) : ∀ x : Int32, x < n → x < 4 := fun x q => by
  rw [Int32.lt_iff_toInt_lt] at q ⊢
  have e : (4 : Int32).toInt = 4 := by decide
  omega
theorem own_md {g md bb : Int32} (h : own_OK g md bb) : md ≠ 0 ∧ 2 ≤ md.toInt ∧ md.toInt ≤ 1000 := by
  have e : (2 : Int32).toInt = 2 := by decide
  have key : ¬ md < (2 : Int32) → md.toInt ≤ 1000 → md ≠ 0 ∧ 2 ≤ md.toInt ∧ md.toInt ≤ 1000 := fun h1 h2 => by
    rw [Int32.lt_iff_toInt_lt] at h1
    refine ⟨fun q => ?_, by omega, h2⟩
    subst q
    exact absurd h1 (by decide)
  rcases h with ⟨-, h1, h2⟩ | ⟨-, h1, h2⟩ | ⟨-, h1, h2⟩ | ⟨-, h1, h2⟩ <;> exact key h1.1 h2.2.2.2.1
theorem own_cr {g md bb : Int32} (h : own_OK g md bb) (x : Int32) : 0 ≤ ((x &&& (2147483647 : Int32)) % md).toInt ∧ ((x &&& (2147483647 : Int32)) % md).toInt < md.toInt := by
  have h1 := c_mask x 2147483647 31 (by decide) (by decide)
  have hm := own_md h
  have h2 := (c_iremV (x &&& 2147483647) md).1 (by omega) (by omega)
  exact ⟨h2.1, h2.2.1⟩
theorem own_cv0 {Z : State} {h : Heap} {a : Addr} {k : ClassId} (F : Arv Z h a k .int (0 : Int32) [] (.int 0)) : Arv Z h a k .int (0 : Int32) (own_C (own_f4 0 0 0 0)) (.int 0) := F.pad (fun i => by match i with | 0 => rfl | 1 => rfl | 2 => rfl | 3 => rfl | (i + 4) => rfl)
theorem own_F0 {md : Int32} (h : 0 < md.toInt) : own_F (own_f4 0 0 0 0) (0 : Int32) md := by
  have z : (0 : Int32).toInt = 0 := by decide
  refine ⟨fun i hi => ?_, fun i => ?_⟩
  · unfold own_f4
    all_goals simp
  · unfold own_f4
    split
    · first | exact h0 | (rw [z]; omega)
    · split
      · first | exact h1 | (rw [z]; omega)
      · split
        · first | exact h2 | (rw [z]; omega)
        · split
          · first | exact h3 | (rw [z]; omega)
          · rw [z]; omega
theorem own_cv1 {Z : State} {h : Heap} {a : Addr} {k : ClassId} {c0 : Int32} (F : Arv Z h a k .int (1 : Int32) [(.int c0)] (.int 0)) : Arv Z h a k .int (1 : Int32) (own_C (own_f4 c0 0 0 0)) (.int 0) := F.pad (fun i => by match i with | 0 => rfl | 1 => rfl | 2 => rfl | 3 => rfl | (i + 4) => rfl)
theorem own_F1 {md : Int32} {c0 : Int32} (h : 0 < md.toInt) (h0 : 0 ≤ c0.toInt ∧ c0.toInt < md.toInt) : own_F (own_f4 c0 0 0 0) (1 : Int32) md := by
  have z : (0 : Int32).toInt = 0 := by decide
  refine ⟨fun i hi => ?_, fun i => ?_⟩
  · unfold own_f4
    rw [if_neg (fun q => hi (by rw [q]; decide) : ¬ i = 0)]
    all_goals simp
  · unfold own_f4
    split
    · first | exact h0 | (rw [z]; omega)
    · split
      · first | exact h1 | (rw [z]; omega)
      · split
        · first | exact h2 | (rw [z]; omega)
        · split
          · first | exact h3 | (rw [z]; omega)
          · rw [z]; omega
theorem own_cv2 {Z : State} {h : Heap} {a : Addr} {k : ClassId} {c0 c1 : Int32} (F : Arv Z h a k .int (2 : Int32) [(.int c0), (.int c1)] (.int 0)) : Arv Z h a k .int (2 : Int32) (own_C (own_f4 c0 c1 0 0)) (.int 0) := F.pad (fun i => by match i with | 0 => rfl | 1 => rfl | 2 => rfl | 3 => rfl | (i + 4) => rfl)
theorem own_F2 {md : Int32} {c0 c1 : Int32} (h : 0 < md.toInt) (h0 : 0 ≤ c0.toInt ∧ c0.toInt < md.toInt) (h1 : 0 ≤ c1.toInt ∧ c1.toInt < md.toInt) : own_F (own_f4 c0 c1 0 0) (2 : Int32) md := by
  have z : (0 : Int32).toInt = 0 := by decide
  refine ⟨fun i hi => ?_, fun i => ?_⟩
  · unfold own_f4
    rw [if_neg (fun q => hi (by rw [q]; decide) : ¬ i = 0)]
    rw [if_neg (fun q => hi (by rw [q]; decide) : ¬ i = 1)]
    all_goals simp
  · unfold own_f4
    split
    · first | exact h0 | (rw [z]; omega)
    · split
      · first | exact h1 | (rw [z]; omega)
      · split
        · first | exact h2 | (rw [z]; omega)
        · split
          · first | exact h3 | (rw [z]; omega)
          · rw [z]; omega
theorem own_cv3 {Z : State} {h : Heap} {a : Addr} {k : ClassId} {c0 c1 c2 : Int32} (F : Arv Z h a k .int (3 : Int32) [(.int c0), (.int c1), (.int c2)] (.int 0)) : Arv Z h a k .int (3 : Int32) (own_C (own_f4 c0 c1 c2 0)) (.int 0) := F.pad (fun i => by match i with | 0 => rfl | 1 => rfl | 2 => rfl | 3 => rfl | (i + 4) => rfl)
theorem own_F3 {md : Int32} {c0 c1 c2 : Int32} (h : 0 < md.toInt) (h0 : 0 ≤ c0.toInt ∧ c0.toInt < md.toInt) (h1 : 0 ≤ c1.toInt ∧ c1.toInt < md.toInt) (h2 : 0 ≤ c2.toInt ∧ c2.toInt < md.toInt) : own_F (own_f4 c0 c1 c2 0) (3 : Int32) md := by
  have z : (0 : Int32).toInt = 0 := by decide
  refine ⟨fun i hi => ?_, fun i => ?_⟩
  · unfold own_f4
    rw [if_neg (fun q => hi (by rw [q]; decide) : ¬ i = 0)]
    rw [if_neg (fun q => hi (by rw [q]; decide) : ¬ i = 1)]
    rw [if_neg (fun q => hi (by rw [q]; decide) : ¬ i = 2)]
    all_goals simp
  · unfold own_f4
    split
    · first | exact h0 | (rw [z]; omega)
    · split
      · first | exact h1 | (rw [z]; omega)
      · split
        · first | exact h2 | (rw [z]; omega)
        · split
          · first | exact h3 | (rw [z]; omega)
          · rw [z]; omega
theorem own_cv4 {Z : State} {h : Heap} {a : Addr} {k : ClassId} {c0 c1 c2 c3 : Int32} (F : Arv Z h a k .int (4 : Int32) [(.int c0), (.int c1), (.int c2), (.int c3)] (.int 0)) : Arv Z h a k .int (4 : Int32) (own_C (own_f4 c0 c1 c2 c3)) (.int 0) := F.pad (fun i => by match i with | 0 => rfl | 1 => rfl | 2 => rfl | 3 => rfl | (i + 4) => rfl)
theorem own_F4 {md : Int32} {c0 c1 c2 c3 : Int32} (h : 0 < md.toInt) (h0 : 0 ≤ c0.toInt ∧ c0.toInt < md.toInt) (h1 : 0 ≤ c1.toInt ∧ c1.toInt < md.toInt) (h2 : 0 ≤ c2.toInt ∧ c2.toInt < md.toInt) (h3 : 0 ≤ c3.toInt ∧ c3.toInt < md.toInt) : own_F (own_f4 c0 c1 c2 c3) (4 : Int32) md := by
  have z : (0 : Int32).toInt = 0 := by decide
  refine ⟨fun i hi => ?_, fun i => ?_⟩
  · unfold own_f4
    rw [if_neg (fun q => hi (by rw [q]; decide) : ¬ i = 0)]
    rw [if_neg (fun q => hi (by rw [q]; decide) : ¬ i = 1)]
    rw [if_neg (fun q => hi (by rw [q]; decide) : ¬ i = 2)]
    rw [if_neg (fun q => hi (by rw [q]; decide) : ¬ i = 3)]
    all_goals simp
  · unfold own_f4
    split
    · first | exact h0 | (rw [z]; omega)
    · split
      · first | exact h1 | (rw [z]; omega)
      · split
        · first | exact h2 | (rw [z]; omega)
        · split
          · first | exact h3 | (rw [z]; omega)
          · rw [z]; omega
theorem pd_8 : parseMethodDescriptor "(II)V" = some ⟨[.int, .int], none⟩ := by decide +kernel
set_option maxRecDepth 65536 in
set_option maxHeartbeats 40000000 in
theorem own_main {p : Program} {l : Launch} {e : Env} {s : State} {m : MethodId} {args : Array Value} {below : List Frame} {meth : Method} {c : Code} {T0 : State} {locs : List Loc} {Z : State} {a0 : Array Value} {hA : Heap} {n0 : Nat} (p0 p1 p2 p3 p4 kk off n md g bb : Int32)
    (hx : p.tables.exec = Jvm.exec) (hw : ∀ d ∈ tables_1, d.before a0 Z = true) (hby : c.code = code) (hml : c.maxLocals = 18) (hret : meth.sig.returnType = ret) (hlk : meth.locks = false) (hZ : Z.Warmed39 s.vm) (hown : s.vm.findClass "com/example/known_leaks/knownleaks/CellPackingWritePinLaw" = some m.cls) (X0 : Stand p l e room_1 s m args below meth c T0 locs 0 0) (e0 : T0.heap = hA) (N0 : Fr n0 locs) (Z0 : n0 ≤ hA.size) (hok : own_OK g md bb) (hoff : 0 ≤ off.toInt ∧ off.toInt ≤ 3) (hn : n = (0 : Int32) ∨ n = (1 : Int32) ∨ n = (2 : Int32) ∨ n = (3 : Int32) ∨ n = (4 : Int32)) :
    Wp p e below (fun o s₂ => ∃ v L, o = .returned v ∧ QL n0 v s₂.heap L ∧ FrameEnd s o s₂ L 24 128) (T0.setTop (mkF m 181 #[.val (.int p0), .val (.int p1), .val (.int p2), .val (.int p3), .val (.int p4), .val (.int kk), .val (.int off), .val (.int n), .val (.int md), .val (.int g), .val (.int bb), .unset, .unset, .unset, .unset, .unset, .unset, .unset] [])) := by
  obtain ⟨T1, h1, X1, e1, E1, A1, D1, -, st1⟩ := newO X0 hx hZ hown (ow hw 4 rfl) (ow hw 5 rfl) (ow hw 6 rfl) e0 (g := (mkF m 181 #[.val (.int p0), .val (.int p1), .val (.int p2), .val (.int p3), .val (.int p4), .val (.int kk), .val (.int off), .val (.int n), .val (.int md), .val (.int g), .val (.int bb), .unset, .unset, .unset, .unset, .unset, .unset, .unset] [])) rfl (hb hby at_181) (by decide) (by decide)
  obtain ⟨b1, g1⟩ : ∃ z, z = hA.size := ⟨_, rfl⟩
  rw [← g1] at A1 D1 st1
  have g_b1 : n0 ≤ b1 := Nat.le_trans Z0 (Nat.le_of_eq g1.symm)
  have f2_0 := Nat.le_trans Z0 E1.1
  have F1_15 : Fld Z h1 b1 "com/example/known_leaks/knownleaks/CellPacking" "powers" "[J" .null := D1 (Or.inr (ow hw 15 rfl)) (ty := (.array .long)) (by decide)
  have F1_18 : Fld Z h1 b1 "com/example/known_leaks/knownleaks/CellPacking" "modulus" "I" (.int 0) := D1 (Or.inr (ow hw 18 rfl)) (ty := .int) (by decide)
  have F1_20 : Fld Z h1 b1 "com/example/known_leaks/knownleaks/CellPacking" "cellsPerBlock" "I" (.int 0) := D1 (Or.inr (ow hw 20 rfl)) (ty := .int) (by decide)
  have F1_31 : Fld Z h1 b1 "com/example/known_leaks/knownleaks/CellPacking" "blockBits" "I" (.int 0) := D1 (Or.inr (ow hw 31 rfl)) (ty := .int) (by decide)
  refine Wp.back (U' := (T1.setTop (mkF m 184 #[.val (.int p0), .val (.int p1), .val (.int p2), .val (.int p3), .val (.int p4), .val (.int kk), .val (.int off), .val (.int n), .val (.int md), .val (.int g), .val (.int bb), .unset, .unset, .unset, .unset, .unset, .unset, .unset] [(.ref b1)]))) st1 ?_
  refine Wp.back (U' := (T1.setTop (mkF m 189 #[.val (.int p0), .val (.int p1), .val (.int p2), .val (.int p3), .val (.int p4), .val (.int kk), .val (.int off), .val (.int n), .val (.int md), .val (.int g), .val (.int bb), .unset, .unset, .unset, .unset, .unset, .unset, .unset] [(.int g), (.int md), (.ref b1), (.ref b1)]))) (fun t k => XS.dup X1.here hx rfl (hb hby at_184) rfl rfl (XS.iload X1.here hx rfl (hb hby at_185) rfl (XS.iload X1.here hx rfl (hb hby at_187) rfl k))) ?_
  obtain ⟨_, _, ⟨T3, L3, k3, n3⟩, -, X3, ⟨Lc3, hQ3, l3, y3, z3⟩, st3⟩ := X1.specialBack hx (y := Y6) rfl hown (mvT hZ (ow hw 7 rfl)) (mvT hZ (ow hw 8 rfl)) (mvT hZ (ow hw 9 rfl)) (by decide) (backOf (W := 1) (rm_ini l Z a0 hw [] b1 md g bb h1 n0 f2_0 A1 F1_15 F1_18 F1_20 F1_31 g_b1 hok) hZ (ow hw 9 rfl) (ow hw 6 rfl) (by decide) (by decide)) (g := (mkF m 189 #[.val (.int p0), .val (.int p1), .val (.int p2), .val (.int p3), .val (.int p4), .val (.int kk), .val (.int off), .val (.int n), .val (.int md), .val (.int g), .val (.int bb), .unset, .unset, .unset, .unset, .unset, .unset, .unset] [(.int g), (.int md), (.ref b1), (.ref b1)])) rfl (by rw [hml]; rfl) (Steps.refl _) (a := b1) (argsL := [(.int md), (.int g)]) (rest := [(.ref b1)]) (lenOf pd_8 rfl) rfl (Nat.le_of_eq rfl) (hb hby at_189) (fun _ _ => ⟨rfl, e1, (by decide : 1 + 1 ≤ _), (by decide : 4 + 5 ≤ _)⟩)
  dsimp only [Pt.U, Pt.locs, Pt.cells, Pt.slots] at X3 l3 y3 z3 st3 hQ3
  subst l3 y3 z3
  obtain ⟨b3_0, k3_0, rfl, N3q, K3, sf3_0, o3_0, o3_1, o3_2, o3_3, o3_4⟩ := hQ3
  have ne_b1_b3_0 : b1 ≠ b3_0 := Nat.ne_of_lt (Nat.lt_of_lt_of_le A1.lt sf3_0)
  have g_b3_0 : n0 ≤ b3_0 := Nat.le_trans f2_0 sf3_0
  have f4_0 := Nat.le_trans f2_0 K3.1
  have f4_1 := A1.keep K3
  have N3 := Fr.app N0 N3q
  refine Wp.back (U' := (T3.setTop (mkF m 192 #[.val (.int p0), .val (.int p1), .val (.int p2), .val (.int p3), .val (.int p4), .val (.int kk), .val (.int off), .val (.int n), .val (.int md), .val (.int g), .val (.int bb), .unset, .unset, .unset, .unset, .unset, .unset, .unset] [(.ref b1)]))) (fun t k => st3.trans k) ?_
  refine Wp.back (U' := (T3.setTop (mkF m 194 #[.val (.int p0), .val (.int p1), .val (.int p2), .val (.int p3), .val (.int p4), .val (.int kk), .val (.int off), .val (.int n), .val (.int md), .val (.int g), .val (.int bb), .val (.ref b1), .unset, .unset, .unset, .unset, .unset, .unset] []))) (fun t k => XS.astore X3.here hx rfl (hb hby at_192) rfl rfl (l' := #[.val (.int p0), .val (.int p1), .val (.int p2), .val (.int p3), .val (.int p4), .val (.int kk), .val (.int off), .val (.int n), .val (.int md), .val (.int g), .val (.int bb), .val (.ref b1), .unset, .unset, .unset, .unset, .unset, .unset]) rfl k) ?_
  rcases hn with rfl | rfl | rfl | rfl | rfl
  · have hn' := hok
    refine Wp.back (U' := (T3.setTop (mkF m 196 #[.val (.int p0), .val (.int p1), .val (.int p2), .val (.int p3), .val (.int p4), .val (.int kk), .val (.int off), .val (.int 0), .val (.int md), .val (.int g), .val (.int bb), .val (.ref b1), .unset, .unset, .unset, .unset, .unset, .unset] [(.int 0)]))) (fun t k => XS.iload X3.here hx rfl (hb hby at_194) rfl k) ?_
    obtain ⟨T5, h5, k5, X5, e5, E5, A5, st5⟩ := newP X3 hx hZ (ow hw 32 rfl) rfl (g := (mkF m 196 #[.val (.int p0), .val (.int p1), .val (.int p2), .val (.int p3), .val (.int p4), .val (.int kk), .val (.int off), .val (.int 0), .val (.int md), .val (.int g), .val (.int bb), .val (.ref b1), .unset, .unset, .unset, .unset, .unset, .unset] [(.int 0)])) rfl (hb hby at_196) rfl (by decide) (cap := 0) (by decide) (by decide) (by decide) (by decide)
    obtain ⟨b5, g5⟩ : ∃ z, z = T3.heap.size := ⟨_, rfl⟩
    rw [← g5] at A5 st5
    have ne_b1_b5 : b1 ≠ b5 := Nat.ne_of_lt (Nat.lt_of_lt_of_le o3_0.lt (Nat.le_of_eq g5.symm))
    have ne_b3_0_b5 : b3_0 ≠ b5 := Nat.ne_of_lt (Nat.lt_of_lt_of_le o3_4.lt (Nat.le_of_eq g5.symm))
    have g_b5 : n0 ≤ b5 := Nat.le_trans f4_0 (Nat.le_of_eq g5.symm)
    have f6_0 := Nat.le_trans f4_0 E5.1
    have f6_1 := o3_0.ext E5
    have f6_2 := o3_1.ext E5
    have f6_3 := o3_2.ext E5
    have f6_4 := o3_3.ext E5
    have f6_5 := o3_4.ext E5
    have V5 : Arv Z h5 b5 k5 .int (0 : Int32) [] (.int 0) := (Arv.new A5 (by decide)).pad (pad_rep [] (.int 0) 0)
    refine Wp.back (U' := (T5.setTop (mkF m 198 #[.val (.int p0), .val (.int p1), .val (.int p2), .val (.int p3), .val (.int p4), .val (.int kk), .val (.int off), .val (.int 0), .val (.int md), .val (.int g), .val (.int bb), .val (.ref b1), .unset, .unset, .unset, .unset, .unset, .unset] [(.ref b5)]))) st5 ?_
    refine Wp.back (U' := (T5.setTop (mkF m 268 #[.val (.int p0), .val (.int p1), .val (.int p2), .val (.int p3), .val (.int p4), .val (.int kk), .val (.int off), .val (.int 0), .val (.int md), .val (.int g), .val (.int bb), .val (.ref b1), .val (.ref b5), .unset, .unset, .unset, .unset, .unset] []))) (fun t k => XS.astore X5.here hx rfl (hb hby at_198) rfl rfl (l' := #[.val (.int p0), .val (.int p1), .val (.int p2), .val (.int p3), .val (.int p4), .val (.int kk), .val (.int off), .val (.int 0), .val (.int md), .val (.int g), .val (.int bb), .val (.ref b1), .val (.ref b5), .unset, .unset, .unset, .unset, .unset]) rfl (XS.iload X5.here hx rfl (hb hby at_200) rfl (XS.ifYes X5.here hx rfl (pc0 := 202) (pc' := 216) rfl (hb hby at_202) rfl ((if0 _ _).trans (flt (by decide)).2.2.2) (by decide) (by decide) (XS.iload X5.here hx rfl (hb hby at_216) rfl (XT.iconstV X5.here hx rfl 1 (hb hby at_218) (by decide) (XS.icmpYes X5.here hx rfl (pc0 := 219) (pc' := 233) rfl (hb hby at_219) rfl (flt (by decide)).2.2.2 (by decide) (by decide) (XS.iload X5.here hx rfl (hb hby at_233) rfl (XT.iconstV X5.here hx rfl 2 (hb hby at_235) (by decide) (XS.icmpYes X5.here hx rfl (pc0 := 236) (pc' := 250) rfl (hb hby at_236) rfl (flt (by decide)).2.2.2 (by decide) (by decide) (XS.iload X5.here hx rfl (hb hby at_250) rfl (XT.iconstV X5.here hx rfl 3 (hb hby at_252) (by decide) (XS.icmpYes X5.here hx rfl (pc0 := 253) (pc' := 268) rfl (hb hby at_253) rfl (flt (by decide)).2.2.2 (by decide) (by decide) k)))))))))))) ?_
    exact own_tail (p0) (p1) (p2) (p3) (p4) (kk) (off) ((0 : Int32)) (md) (g) (bb) (b1) (b5) (b3_0) (k5) (k3_0) (own_f4 0 0 0 0) hx hw hby hml hret hlk hZ hown (own_more X5 (by decide) (by decide)) e5 N3 f6_0 f6_1 f6_2 f6_3 f6_4 f6_5 (own_cv0 V5) hok hoff (by decide) (own_F0 (by have := own_md hok; omega) ) (own_n4 (by decide))
  · have hn' := hok
    refine Wp.back (U' := (T3.setTop (mkF m 196 #[.val (.int p0), .val (.int p1), .val (.int p2), .val (.int p3), .val (.int p4), .val (.int kk), .val (.int off), .val (.int 1), .val (.int md), .val (.int g), .val (.int bb), .val (.ref b1), .unset, .unset, .unset, .unset, .unset, .unset] [(.int 1)]))) (fun t k => XS.iload X3.here hx rfl (hb hby at_194) rfl k) ?_
    obtain ⟨T7, h7, k7, X7, e7, E7, A7, st7⟩ := newP X3 hx hZ (ow hw 32 rfl) rfl (g := (mkF m 196 #[.val (.int p0), .val (.int p1), .val (.int p2), .val (.int p3), .val (.int p4), .val (.int kk), .val (.int off), .val (.int 1), .val (.int md), .val (.int g), .val (.int bb), .val (.ref b1), .unset, .unset, .unset, .unset, .unset, .unset] [(.int 1)])) rfl (hb hby at_196) rfl (by decide) (cap := 1) (by decide) (by decide) (by decide) (by decide)
    obtain ⟨b7, g7⟩ : ∃ z, z = T3.heap.size := ⟨_, rfl⟩
    rw [← g7] at A7 st7
    have ne_b1_b7 : b1 ≠ b7 := Nat.ne_of_lt (Nat.lt_of_lt_of_le o3_0.lt (Nat.le_of_eq g7.symm))
    have ne_b3_0_b7 : b3_0 ≠ b7 := Nat.ne_of_lt (Nat.lt_of_lt_of_le o3_4.lt (Nat.le_of_eq g7.symm))
    have g_b7 : n0 ≤ b7 := Nat.le_trans f4_0 (Nat.le_of_eq g7.symm)
    have f8_0 := Nat.le_trans f4_0 E7.1
    have f8_1 := o3_0.ext E7
    have f8_2 := o3_1.ext E7
    have f8_3 := o3_2.ext E7
    have f8_4 := o3_3.ext E7
    have f8_5 := o3_4.ext E7
    have V7 : Arv Z h7 b7 k7 .int (1 : Int32) [(.int 0)] (.int 0) := (Arv.new A7 (by decide)).pad (pad_rep [] (.int 0) 1)
    refine Wp.back (U' := (T7.setTop (mkF m 198 #[.val (.int p0), .val (.int p1), .val (.int p2), .val (.int p3), .val (.int p4), .val (.int kk), .val (.int off), .val (.int 1), .val (.int md), .val (.int g), .val (.int bb), .val (.ref b1), .unset, .unset, .unset, .unset, .unset, .unset] [(.ref b7)]))) st7 ?_
    refine Wp.back (U' := (T7.setTop (mkF m 215 #[.val (.int p0), .val (.int p1), .val (.int p2), .val (.int p3), .val (.int p4), .val (.int kk), .val (.int off), .val (.int 1), .val (.int md), .val (.int g), .val (.int bb), .val (.ref b1), .val (.ref b7), .unset, .unset, .unset, .unset, .unset] [(.int ((p1 &&& (2147483647 : Int32)) % md)), (.int 0), (.ref b7)]))) (fun t k => XS.astore X7.here hx rfl (hb hby at_198) rfl rfl (l' := #[.val (.int p0), .val (.int p1), .val (.int p2), .val (.int p3), .val (.int p4), .val (.int kk), .val (.int off), .val (.int 1), .val (.int md), .val (.int g), .val (.int bb), .val (.ref b1), .val (.ref b7), .unset, .unset, .unset, .unset, .unset]) rfl (XS.iload X7.here hx rfl (hb hby at_200) rfl (XS.ifNo X7.here hx rfl (hb hby at_202) rfl ((if0 _ _).trans (tlt (by decide)).2.2.2) (XS.aload X7.here hx rfl (hb hby at_205) rfl rfl (XT.iconstV X7.here hx rfl 0 (hb hby at_207) (by decide) (XS.iloadN X7.here hx rfl (hb hby at_208) rfl (Jvm.Stand.ldcI X7 hx hown (mvT hZ (ow hw 52 rfl)) rfl (hb hby at_209) (XS.iand X7.here hx rfl (hb hby at_211) rfl (XS.iload X7.here hx rfl (hb hby at_212) rfl (iremM X7 hx rfl (hb hby at_214) rfl (own_md hok).1 k)))))))))) ?_
    have vq9 := V7
    obtain ⟨cl9, Ar9, qa9, qs9, qn9, qh9, qg9⟩ := vq9
    have hin9 : ¬ ((0 : Int32) < 0 ∨ cl9.slots.size ≤ ((0 : Int32)).toNatClampNeg) := inb_of qs9 ⟨by decide, by decide⟩
    obtain ⟨T9, h9, X9, e9, W9, st9⟩ := stI X7 hx hZ e7 Ar9 (j := (0 : Int32)) hin9 (g := (mkF m 215 #[.val (.int p0), .val (.int p1), .val (.int p2), .val (.int p3), .val (.int p4), .val (.int kk), .val (.int off), .val (.int 1), .val (.int md), .val (.int g), .val (.int bb), .val (.ref b1), .val (.ref b7), .unset, .unset, .unset, .unset, .unset] [(.int ((p1 &&& (2147483647 : Int32)) % md)), (.int 0), (.ref b7)])) rfl rfl (hb hby at_215)
    have V9 : Arv Z h9 b7 k7 .int (1 : Int32) [(.int ((p1 &&& (2147483647 : Int32)) % md))] (.int 0) := Arv.set Ar9 qa9 qs9 qn9 qh9 qg9 rfl W9 0 rfl (Nat.le_of_ble_eq_true rfl)
    have f10_0 := Nat.le_trans f8_0 (Keep.of_wr W9).1
    have f10_1 := f8_1.wr W9
    have f10_2 := f8_2.other W9 (Or.inl ne_b1_b7)
    have f10_3 := f8_3.other W9 (Or.inl ne_b1_b7)
    have f10_4 := f8_4.other W9 (Or.inl ne_b1_b7)
    have f10_5 := f8_5.other W9 ne_b3_0_b7
    have N9 := Fr.snoc X9 N3 g_b7
    refine Wp.back (U' := (T9.setTop (mkF m 216 #[.val (.int p0), .val (.int p1), .val (.int p2), .val (.int p3), .val (.int p4), .val (.int kk), .val (.int off), .val (.int 1), .val (.int md), .val (.int g), .val (.int bb), .val (.ref b1), .val (.ref b7), .unset, .unset, .unset, .unset, .unset] []))) st9 ?_
    refine Wp.back (U' := (T9.setTop (mkF m 268 #[.val (.int p0), .val (.int p1), .val (.int p2), .val (.int p3), .val (.int p4), .val (.int kk), .val (.int off), .val (.int 1), .val (.int md), .val (.int g), .val (.int bb), .val (.ref b1), .val (.ref b7), .unset, .unset, .unset, .unset, .unset] []))) (fun t k => XS.iload X9.here hx rfl (hb hby at_216) rfl (XT.iconstV X9.here hx rfl 1 (hb hby at_218) (by decide) (XS.icmpYes X9.here hx rfl (pc0 := 219) (pc' := 233) rfl (hb hby at_219) rfl (flt (by decide)).2.2.2 (by decide) (by decide) (XS.iload X9.here hx rfl (hb hby at_233) rfl (XT.iconstV X9.here hx rfl 2 (hb hby at_235) (by decide) (XS.icmpYes X9.here hx rfl (pc0 := 236) (pc' := 250) rfl (hb hby at_236) rfl (flt (by decide)).2.2.2 (by decide) (by decide) (XS.iload X9.here hx rfl (hb hby at_250) rfl (XT.iconstV X9.here hx rfl 3 (hb hby at_252) (by decide) (XS.icmpYes X9.here hx rfl (pc0 := 253) (pc' := 268) rfl (hb hby at_253) rfl (flt (by decide)).2.2.2 (by decide) (by decide) k))))))))) ?_
    exact own_tail (p0) (p1) (p2) (p3) (p4) (kk) (off) ((1 : Int32)) (md) (g) (bb) (b1) (b7) (b3_0) (k7) (k3_0) (own_f4 ((p1 &&& (2147483647 : Int32)) % md) 0 0 0) hx hw hby hml hret hlk hZ hown (own_more X9 (by decide) (by decide)) e9 N9 f10_0 f10_1 f10_2 f10_3 f10_4 f10_5 (own_cv1 V9) hok hoff (by decide) (own_F1 (by have := own_md hok; omega) (own_cr hok _)) (own_n4 (by decide))
  · have hn' := hok
    refine Wp.back (U' := (T3.setTop (mkF m 196 #[.val (.int p0), .val (.int p1), .val (.int p2), .val (.int p3), .val (.int p4), .val (.int kk), .val (.int off), .val (.int 2), .val (.int md), .val (.int g), .val (.int bb), .val (.ref b1), .unset, .unset, .unset, .unset, .unset, .unset] [(.int 2)]))) (fun t k => XS.iload X3.here hx rfl (hb hby at_194) rfl k) ?_
    obtain ⟨T11, h11, k11, X11, e11, E11, A11, st11⟩ := newP X3 hx hZ (ow hw 32 rfl) rfl (g := (mkF m 196 #[.val (.int p0), .val (.int p1), .val (.int p2), .val (.int p3), .val (.int p4), .val (.int kk), .val (.int off), .val (.int 2), .val (.int md), .val (.int g), .val (.int bb), .val (.ref b1), .unset, .unset, .unset, .unset, .unset, .unset] [(.int 2)])) rfl (hb hby at_196) rfl (by decide) (cap := 2) (by decide) (by decide) (by decide) (by decide)
    obtain ⟨b11, g11⟩ : ∃ z, z = T3.heap.size := ⟨_, rfl⟩
    rw [← g11] at A11 st11
    have ne_b1_b11 : b1 ≠ b11 := Nat.ne_of_lt (Nat.lt_of_lt_of_le o3_0.lt (Nat.le_of_eq g11.symm))
    have ne_b3_0_b11 : b3_0 ≠ b11 := Nat.ne_of_lt (Nat.lt_of_lt_of_le o3_4.lt (Nat.le_of_eq g11.symm))
    have g_b11 : n0 ≤ b11 := Nat.le_trans f4_0 (Nat.le_of_eq g11.symm)
    have f12_0 := Nat.le_trans f4_0 E11.1
    have f12_1 := o3_0.ext E11
    have f12_2 := o3_1.ext E11
    have f12_3 := o3_2.ext E11
    have f12_4 := o3_3.ext E11
    have f12_5 := o3_4.ext E11
    have V11 : Arv Z h11 b11 k11 .int (2 : Int32) [(.int 0), (.int 0)] (.int 0) := (Arv.new A11 (by decide)).pad (pad_rep [] (.int 0) 2)
    refine Wp.back (U' := (T11.setTop (mkF m 198 #[.val (.int p0), .val (.int p1), .val (.int p2), .val (.int p3), .val (.int p4), .val (.int kk), .val (.int off), .val (.int 2), .val (.int md), .val (.int g), .val (.int bb), .val (.ref b1), .unset, .unset, .unset, .unset, .unset, .unset] [(.ref b11)]))) st11 ?_
    refine Wp.back (U' := (T11.setTop (mkF m 215 #[.val (.int p0), .val (.int p1), .val (.int p2), .val (.int p3), .val (.int p4), .val (.int kk), .val (.int off), .val (.int 2), .val (.int md), .val (.int g), .val (.int bb), .val (.ref b1), .val (.ref b11), .unset, .unset, .unset, .unset, .unset] [(.int ((p1 &&& (2147483647 : Int32)) % md)), (.int 0), (.ref b11)]))) (fun t k => XS.astore X11.here hx rfl (hb hby at_198) rfl rfl (l' := #[.val (.int p0), .val (.int p1), .val (.int p2), .val (.int p3), .val (.int p4), .val (.int kk), .val (.int off), .val (.int 2), .val (.int md), .val (.int g), .val (.int bb), .val (.ref b1), .val (.ref b11), .unset, .unset, .unset, .unset, .unset]) rfl (XS.iload X11.here hx rfl (hb hby at_200) rfl (XS.ifNo X11.here hx rfl (hb hby at_202) rfl ((if0 _ _).trans (tlt (by decide)).2.2.2) (XS.aload X11.here hx rfl (hb hby at_205) rfl rfl (XT.iconstV X11.here hx rfl 0 (hb hby at_207) (by decide) (XS.iloadN X11.here hx rfl (hb hby at_208) rfl (Jvm.Stand.ldcI X11 hx hown (mvT hZ (ow hw 52 rfl)) rfl (hb hby at_209) (XS.iand X11.here hx rfl (hb hby at_211) rfl (XS.iload X11.here hx rfl (hb hby at_212) rfl (iremM X11 hx rfl (hb hby at_214) rfl (own_md hok).1 k)))))))))) ?_
    have vq13 := V11
    obtain ⟨cl13, Ar13, qa13, qs13, qn13, qh13, qg13⟩ := vq13
    have hin13 : ¬ ((0 : Int32) < 0 ∨ cl13.slots.size ≤ ((0 : Int32)).toNatClampNeg) := inb_of qs13 ⟨by decide, by decide⟩
    obtain ⟨T13, h13, X13, e13, W13, st13⟩ := stI X11 hx hZ e11 Ar13 (j := (0 : Int32)) hin13 (g := (mkF m 215 #[.val (.int p0), .val (.int p1), .val (.int p2), .val (.int p3), .val (.int p4), .val (.int kk), .val (.int off), .val (.int 2), .val (.int md), .val (.int g), .val (.int bb), .val (.ref b1), .val (.ref b11), .unset, .unset, .unset, .unset, .unset] [(.int ((p1 &&& (2147483647 : Int32)) % md)), (.int 0), (.ref b11)])) rfl rfl (hb hby at_215)
    have V13 : Arv Z h13 b11 k11 .int (2 : Int32) [(.int ((p1 &&& (2147483647 : Int32)) % md)), (.int 0)] (.int 0) := Arv.set Ar13 qa13 qs13 qn13 qh13 qg13 rfl W13 0 rfl (Nat.le_of_ble_eq_true rfl)
    have f14_0 := Nat.le_trans f12_0 (Keep.of_wr W13).1
    have f14_1 := f12_1.wr W13
    have f14_2 := f12_2.other W13 (Or.inl ne_b1_b11)
    have f14_3 := f12_3.other W13 (Or.inl ne_b1_b11)
    have f14_4 := f12_4.other W13 (Or.inl ne_b1_b11)
    have f14_5 := f12_5.other W13 ne_b3_0_b11
    have N13 := Fr.snoc X13 N3 g_b11
    refine Wp.back (U' := (T13.setTop (mkF m 216 #[.val (.int p0), .val (.int p1), .val (.int p2), .val (.int p3), .val (.int p4), .val (.int kk), .val (.int off), .val (.int 2), .val (.int md), .val (.int g), .val (.int bb), .val (.ref b1), .val (.ref b11), .unset, .unset, .unset, .unset, .unset] []))) st13 ?_
    refine Wp.back (U' := (T13.setTop (mkF m 232 #[.val (.int p0), .val (.int p1), .val (.int p2), .val (.int p3), .val (.int p4), .val (.int kk), .val (.int off), .val (.int 2), .val (.int md), .val (.int g), .val (.int bb), .val (.ref b1), .val (.ref b11), .unset, .unset, .unset, .unset, .unset] [(.int ((p2 &&& (2147483647 : Int32)) % md)), (.int 1), (.ref b11)]))) (fun t k => XS.iload X13.here hx rfl (hb hby at_216) rfl (XT.iconstV X13.here hx rfl 1 (hb hby at_218) (by decide) (XS.icmpNo X13.here hx rfl (hb hby at_219) rfl (tlt (by decide)).2.2.2 (XS.aload X13.here hx rfl (hb hby at_222) rfl rfl (XT.iconstV X13.here hx rfl 1 (hb hby at_224) (by decide) (XS.iloadN X13.here hx rfl (hb hby at_225) rfl (Jvm.Stand.ldcI X13 hx hown (mvT hZ (ow hw 52 rfl)) rfl (hb hby at_226) (XS.iand X13.here hx rfl (hb hby at_228) rfl (XS.iload X13.here hx rfl (hb hby at_229) rfl (iremM X13 hx rfl (hb hby at_231) rfl (own_md hok).1 k)))))))))) ?_
    have vq15 := V13
    obtain ⟨cl15, Ar15, qa15, qs15, qn15, qh15, qg15⟩ := vq15
    have hin15 : ¬ ((1 : Int32) < 0 ∨ cl15.slots.size ≤ ((1 : Int32)).toNatClampNeg) := inb_of qs15 ⟨by decide, by decide⟩
    obtain ⟨T15, h15, X15, e15, W15, st15⟩ := stI X13 hx hZ e13 Ar15 (j := (1 : Int32)) hin15 (g := (mkF m 232 #[.val (.int p0), .val (.int p1), .val (.int p2), .val (.int p3), .val (.int p4), .val (.int kk), .val (.int off), .val (.int 2), .val (.int md), .val (.int g), .val (.int bb), .val (.ref b1), .val (.ref b11), .unset, .unset, .unset, .unset, .unset] [(.int ((p2 &&& (2147483647 : Int32)) % md)), (.int 1), (.ref b11)])) rfl rfl (hb hby at_232)
    have V15 : Arv Z h15 b11 k11 .int (2 : Int32) [(.int ((p1 &&& (2147483647 : Int32)) % md)), (.int ((p2 &&& (2147483647 : Int32)) % md))] (.int 0) := Arv.set Ar15 qa15 qs15 qn15 qh15 qg15 rfl W15 1 rfl (Nat.le_of_ble_eq_true rfl)
    have f16_0 := Nat.le_trans f14_0 (Keep.of_wr W15).1
    have f16_1 := f14_1.wr W15
    have f16_2 := f14_2.other W15 (Or.inl ne_b1_b11)
    have f16_3 := f14_3.other W15 (Or.inl ne_b1_b11)
    have f16_4 := f14_4.other W15 (Or.inl ne_b1_b11)
    have f16_5 := f14_5.other W15 ne_b3_0_b11
    have N15 := Fr.snoc X15 N13 g_b11
    refine Wp.back (U' := (T15.setTop (mkF m 233 #[.val (.int p0), .val (.int p1), .val (.int p2), .val (.int p3), .val (.int p4), .val (.int kk), .val (.int off), .val (.int 2), .val (.int md), .val (.int g), .val (.int bb), .val (.ref b1), .val (.ref b11), .unset, .unset, .unset, .unset, .unset] []))) st15 ?_
    refine Wp.back (U' := (T15.setTop (mkF m 268 #[.val (.int p0), .val (.int p1), .val (.int p2), .val (.int p3), .val (.int p4), .val (.int kk), .val (.int off), .val (.int 2), .val (.int md), .val (.int g), .val (.int bb), .val (.ref b1), .val (.ref b11), .unset, .unset, .unset, .unset, .unset] []))) (fun t k => XS.iload X15.here hx rfl (hb hby at_233) rfl (XT.iconstV X15.here hx rfl 2 (hb hby at_235) (by decide) (XS.icmpYes X15.here hx rfl (pc0 := 236) (pc' := 250) rfl (hb hby at_236) rfl (flt (by decide)).2.2.2 (by decide) (by decide) (XS.iload X15.here hx rfl (hb hby at_250) rfl (XT.iconstV X15.here hx rfl 3 (hb hby at_252) (by decide) (XS.icmpYes X15.here hx rfl (pc0 := 253) (pc' := 268) rfl (hb hby at_253) rfl (flt (by decide)).2.2.2 (by decide) (by decide) k)))))) ?_
    exact own_tail (p0) (p1) (p2) (p3) (p4) (kk) (off) ((2 : Int32)) (md) (g) (bb) (b1) (b11) (b3_0) (k11) (k3_0) (own_f4 ((p1 &&& (2147483647 : Int32)) % md) ((p2 &&& (2147483647 : Int32)) % md) 0 0) hx hw hby hml hret hlk hZ hown (own_more X15 (by decide) (by decide)) e15 N15 f16_0 f16_1 f16_2 f16_3 f16_4 f16_5 (own_cv2 V15) hok hoff (by decide) (own_F2 (by have := own_md hok; omega) (own_cr hok _) (own_cr hok _)) (own_n4 (by decide))
  · have hn' := hok
    refine Wp.back (U' := (T3.setTop (mkF m 196 #[.val (.int p0), .val (.int p1), .val (.int p2), .val (.int p3), .val (.int p4), .val (.int kk), .val (.int off), .val (.int 3), .val (.int md), .val (.int g), .val (.int bb), .val (.ref b1), .unset, .unset, .unset, .unset, .unset, .unset] [(.int 3)]))) (fun t k => XS.iload X3.here hx rfl (hb hby at_194) rfl k) ?_
    obtain ⟨T17, h17, k17, X17, e17, E17, A17, st17⟩ := newP X3 hx hZ (ow hw 32 rfl) rfl (g := (mkF m 196 #[.val (.int p0), .val (.int p1), .val (.int p2), .val (.int p3), .val (.int p4), .val (.int kk), .val (.int off), .val (.int 3), .val (.int md), .val (.int g), .val (.int bb), .val (.ref b1), .unset, .unset, .unset, .unset, .unset, .unset] [(.int 3)])) rfl (hb hby at_196) rfl (by decide) (cap := 3) (by decide) (by decide) (by decide) (by decide)
    obtain ⟨b17, g17⟩ : ∃ z, z = T3.heap.size := ⟨_, rfl⟩
    rw [← g17] at A17 st17
    have ne_b1_b17 : b1 ≠ b17 := Nat.ne_of_lt (Nat.lt_of_lt_of_le o3_0.lt (Nat.le_of_eq g17.symm))
    have ne_b3_0_b17 : b3_0 ≠ b17 := Nat.ne_of_lt (Nat.lt_of_lt_of_le o3_4.lt (Nat.le_of_eq g17.symm))
    have g_b17 : n0 ≤ b17 := Nat.le_trans f4_0 (Nat.le_of_eq g17.symm)
    have f18_0 := Nat.le_trans f4_0 E17.1
    have f18_1 := o3_0.ext E17
    have f18_2 := o3_1.ext E17
    have f18_3 := o3_2.ext E17
    have f18_4 := o3_3.ext E17
    have f18_5 := o3_4.ext E17
    have V17 : Arv Z h17 b17 k17 .int (3 : Int32) [(.int 0), (.int 0), (.int 0)] (.int 0) := (Arv.new A17 (by decide)).pad (pad_rep [] (.int 0) 3)
    refine Wp.back (U' := (T17.setTop (mkF m 198 #[.val (.int p0), .val (.int p1), .val (.int p2), .val (.int p3), .val (.int p4), .val (.int kk), .val (.int off), .val (.int 3), .val (.int md), .val (.int g), .val (.int bb), .val (.ref b1), .unset, .unset, .unset, .unset, .unset, .unset] [(.ref b17)]))) st17 ?_
    refine Wp.back (U' := (T17.setTop (mkF m 215 #[.val (.int p0), .val (.int p1), .val (.int p2), .val (.int p3), .val (.int p4), .val (.int kk), .val (.int off), .val (.int 3), .val (.int md), .val (.int g), .val (.int bb), .val (.ref b1), .val (.ref b17), .unset, .unset, .unset, .unset, .unset] [(.int ((p1 &&& (2147483647 : Int32)) % md)), (.int 0), (.ref b17)]))) (fun t k => XS.astore X17.here hx rfl (hb hby at_198) rfl rfl (l' := #[.val (.int p0), .val (.int p1), .val (.int p2), .val (.int p3), .val (.int p4), .val (.int kk), .val (.int off), .val (.int 3), .val (.int md), .val (.int g), .val (.int bb), .val (.ref b1), .val (.ref b17), .unset, .unset, .unset, .unset, .unset]) rfl (XS.iload X17.here hx rfl (hb hby at_200) rfl (XS.ifNo X17.here hx rfl (hb hby at_202) rfl ((if0 _ _).trans (tlt (by decide)).2.2.2) (XS.aload X17.here hx rfl (hb hby at_205) rfl rfl (XT.iconstV X17.here hx rfl 0 (hb hby at_207) (by decide) (XS.iloadN X17.here hx rfl (hb hby at_208) rfl (Jvm.Stand.ldcI X17 hx hown (mvT hZ (ow hw 52 rfl)) rfl (hb hby at_209) (XS.iand X17.here hx rfl (hb hby at_211) rfl (XS.iload X17.here hx rfl (hb hby at_212) rfl (iremM X17 hx rfl (hb hby at_214) rfl (own_md hok).1 k)))))))))) ?_
    have vq19 := V17
    obtain ⟨cl19, Ar19, qa19, qs19, qn19, qh19, qg19⟩ := vq19
    have hin19 : ¬ ((0 : Int32) < 0 ∨ cl19.slots.size ≤ ((0 : Int32)).toNatClampNeg) := inb_of qs19 ⟨by decide, by decide⟩
    obtain ⟨T19, h19, X19, e19, W19, st19⟩ := stI X17 hx hZ e17 Ar19 (j := (0 : Int32)) hin19 (g := (mkF m 215 #[.val (.int p0), .val (.int p1), .val (.int p2), .val (.int p3), .val (.int p4), .val (.int kk), .val (.int off), .val (.int 3), .val (.int md), .val (.int g), .val (.int bb), .val (.ref b1), .val (.ref b17), .unset, .unset, .unset, .unset, .unset] [(.int ((p1 &&& (2147483647 : Int32)) % md)), (.int 0), (.ref b17)])) rfl rfl (hb hby at_215)
    have V19 : Arv Z h19 b17 k17 .int (3 : Int32) [(.int ((p1 &&& (2147483647 : Int32)) % md)), (.int 0), (.int 0)] (.int 0) := Arv.set Ar19 qa19 qs19 qn19 qh19 qg19 rfl W19 0 rfl (Nat.le_of_ble_eq_true rfl)
    have f20_0 := Nat.le_trans f18_0 (Keep.of_wr W19).1
    have f20_1 := f18_1.wr W19
    have f20_2 := f18_2.other W19 (Or.inl ne_b1_b17)
    have f20_3 := f18_3.other W19 (Or.inl ne_b1_b17)
    have f20_4 := f18_4.other W19 (Or.inl ne_b1_b17)
    have f20_5 := f18_5.other W19 ne_b3_0_b17
    have N19 := Fr.snoc X19 N3 g_b17
    refine Wp.back (U' := (T19.setTop (mkF m 216 #[.val (.int p0), .val (.int p1), .val (.int p2), .val (.int p3), .val (.int p4), .val (.int kk), .val (.int off), .val (.int 3), .val (.int md), .val (.int g), .val (.int bb), .val (.ref b1), .val (.ref b17), .unset, .unset, .unset, .unset, .unset] []))) st19 ?_
    refine Wp.back (U' := (T19.setTop (mkF m 232 #[.val (.int p0), .val (.int p1), .val (.int p2), .val (.int p3), .val (.int p4), .val (.int kk), .val (.int off), .val (.int 3), .val (.int md), .val (.int g), .val (.int bb), .val (.ref b1), .val (.ref b17), .unset, .unset, .unset, .unset, .unset] [(.int ((p2 &&& (2147483647 : Int32)) % md)), (.int 1), (.ref b17)]))) (fun t k => XS.iload X19.here hx rfl (hb hby at_216) rfl (XT.iconstV X19.here hx rfl 1 (hb hby at_218) (by decide) (XS.icmpNo X19.here hx rfl (hb hby at_219) rfl (tlt (by decide)).2.2.2 (XS.aload X19.here hx rfl (hb hby at_222) rfl rfl (XT.iconstV X19.here hx rfl 1 (hb hby at_224) (by decide) (XS.iloadN X19.here hx rfl (hb hby at_225) rfl (Jvm.Stand.ldcI X19 hx hown (mvT hZ (ow hw 52 rfl)) rfl (hb hby at_226) (XS.iand X19.here hx rfl (hb hby at_228) rfl (XS.iload X19.here hx rfl (hb hby at_229) rfl (iremM X19 hx rfl (hb hby at_231) rfl (own_md hok).1 k)))))))))) ?_
    have vq21 := V19
    obtain ⟨cl21, Ar21, qa21, qs21, qn21, qh21, qg21⟩ := vq21
    have hin21 : ¬ ((1 : Int32) < 0 ∨ cl21.slots.size ≤ ((1 : Int32)).toNatClampNeg) := inb_of qs21 ⟨by decide, by decide⟩
    obtain ⟨T21, h21, X21, e21, W21, st21⟩ := stI X19 hx hZ e19 Ar21 (j := (1 : Int32)) hin21 (g := (mkF m 232 #[.val (.int p0), .val (.int p1), .val (.int p2), .val (.int p3), .val (.int p4), .val (.int kk), .val (.int off), .val (.int 3), .val (.int md), .val (.int g), .val (.int bb), .val (.ref b1), .val (.ref b17), .unset, .unset, .unset, .unset, .unset] [(.int ((p2 &&& (2147483647 : Int32)) % md)), (.int 1), (.ref b17)])) rfl rfl (hb hby at_232)
    have V21 : Arv Z h21 b17 k17 .int (3 : Int32) [(.int ((p1 &&& (2147483647 : Int32)) % md)), (.int ((p2 &&& (2147483647 : Int32)) % md)), (.int 0)] (.int 0) := Arv.set Ar21 qa21 qs21 qn21 qh21 qg21 rfl W21 1 rfl (Nat.le_of_ble_eq_true rfl)
    have f22_0 := Nat.le_trans f20_0 (Keep.of_wr W21).1
    have f22_1 := f20_1.wr W21
    have f22_2 := f20_2.other W21 (Or.inl ne_b1_b17)
    have f22_3 := f20_3.other W21 (Or.inl ne_b1_b17)
    have f22_4 := f20_4.other W21 (Or.inl ne_b1_b17)
    have f22_5 := f20_5.other W21 ne_b3_0_b17
    have N21 := Fr.snoc X21 N19 g_b17
    refine Wp.back (U' := (T21.setTop (mkF m 233 #[.val (.int p0), .val (.int p1), .val (.int p2), .val (.int p3), .val (.int p4), .val (.int kk), .val (.int off), .val (.int 3), .val (.int md), .val (.int g), .val (.int bb), .val (.ref b1), .val (.ref b17), .unset, .unset, .unset, .unset, .unset] []))) st21 ?_
    refine Wp.back (U' := (T21.setTop (mkF m 249 #[.val (.int p0), .val (.int p1), .val (.int p2), .val (.int p3), .val (.int p4), .val (.int kk), .val (.int off), .val (.int 3), .val (.int md), .val (.int g), .val (.int bb), .val (.ref b1), .val (.ref b17), .unset, .unset, .unset, .unset, .unset] [(.int ((p3 &&& (2147483647 : Int32)) % md)), (.int 2), (.ref b17)]))) (fun t k => XS.iload X21.here hx rfl (hb hby at_233) rfl (XT.iconstV X21.here hx rfl 2 (hb hby at_235) (by decide) (XS.icmpNo X21.here hx rfl (hb hby at_236) rfl (tlt (by decide)).2.2.2 (XS.aload X21.here hx rfl (hb hby at_239) rfl rfl (XT.iconstV X21.here hx rfl 2 (hb hby at_241) (by decide) (XS.iloadN X21.here hx rfl (hb hby at_242) rfl (Jvm.Stand.ldcI X21 hx hown (mvT hZ (ow hw 52 rfl)) rfl (hb hby at_243) (XS.iand X21.here hx rfl (hb hby at_245) rfl (XS.iload X21.here hx rfl (hb hby at_246) rfl (iremM X21 hx rfl (hb hby at_248) rfl (own_md hok).1 k)))))))))) ?_
    have vq23 := V21
    obtain ⟨cl23, Ar23, qa23, qs23, qn23, qh23, qg23⟩ := vq23
    have hin23 : ¬ ((2 : Int32) < 0 ∨ cl23.slots.size ≤ ((2 : Int32)).toNatClampNeg) := inb_of qs23 ⟨by decide, by decide⟩
    obtain ⟨T23, h23, X23, e23, W23, st23⟩ := stI X21 hx hZ e21 Ar23 (j := (2 : Int32)) hin23 (g := (mkF m 249 #[.val (.int p0), .val (.int p1), .val (.int p2), .val (.int p3), .val (.int p4), .val (.int kk), .val (.int off), .val (.int 3), .val (.int md), .val (.int g), .val (.int bb), .val (.ref b1), .val (.ref b17), .unset, .unset, .unset, .unset, .unset] [(.int ((p3 &&& (2147483647 : Int32)) % md)), (.int 2), (.ref b17)])) rfl rfl (hb hby at_249)
    have V23 : Arv Z h23 b17 k17 .int (3 : Int32) [(.int ((p1 &&& (2147483647 : Int32)) % md)), (.int ((p2 &&& (2147483647 : Int32)) % md)), (.int ((p3 &&& (2147483647 : Int32)) % md))] (.int 0) := Arv.set Ar23 qa23 qs23 qn23 qh23 qg23 rfl W23 2 rfl (Nat.le_of_ble_eq_true rfl)
    have f24_0 := Nat.le_trans f22_0 (Keep.of_wr W23).1
    have f24_1 := f22_1.wr W23
    have f24_2 := f22_2.other W23 (Or.inl ne_b1_b17)
    have f24_3 := f22_3.other W23 (Or.inl ne_b1_b17)
    have f24_4 := f22_4.other W23 (Or.inl ne_b1_b17)
    have f24_5 := f22_5.other W23 ne_b3_0_b17
    have N23 := Fr.snoc X23 N21 g_b17
    refine Wp.back (U' := (T23.setTop (mkF m 250 #[.val (.int p0), .val (.int p1), .val (.int p2), .val (.int p3), .val (.int p4), .val (.int kk), .val (.int off), .val (.int 3), .val (.int md), .val (.int g), .val (.int bb), .val (.ref b1), .val (.ref b17), .unset, .unset, .unset, .unset, .unset] []))) st23 ?_
    refine Wp.back (U' := (T23.setTop (mkF m 268 #[.val (.int p0), .val (.int p1), .val (.int p2), .val (.int p3), .val (.int p4), .val (.int kk), .val (.int off), .val (.int 3), .val (.int md), .val (.int g), .val (.int bb), .val (.ref b1), .val (.ref b17), .unset, .unset, .unset, .unset, .unset] []))) (fun t k => XS.iload X23.here hx rfl (hb hby at_250) rfl (XT.iconstV X23.here hx rfl 3 (hb hby at_252) (by decide) (XS.icmpYes X23.here hx rfl (pc0 := 253) (pc' := 268) rfl (hb hby at_253) rfl (flt (by decide)).2.2.2 (by decide) (by decide) k))) ?_
    exact own_tail (p0) (p1) (p2) (p3) (p4) (kk) (off) ((3 : Int32)) (md) (g) (bb) (b1) (b17) (b3_0) (k17) (k3_0) (own_f4 ((p1 &&& (2147483647 : Int32)) % md) ((p2 &&& (2147483647 : Int32)) % md) ((p3 &&& (2147483647 : Int32)) % md) 0) hx hw hby hml hret hlk hZ hown (own_more X23 (by decide) (by decide)) e23 N23 f24_0 f24_1 f24_2 f24_3 f24_4 f24_5 (own_cv3 V23) hok hoff (by decide) (own_F3 (by have := own_md hok; omega) (own_cr hok _) (own_cr hok _) (own_cr hok _)) (own_n4 (by decide))
  · have hn' := hok
    refine Wp.back (U' := (T3.setTop (mkF m 196 #[.val (.int p0), .val (.int p1), .val (.int p2), .val (.int p3), .val (.int p4), .val (.int kk), .val (.int off), .val (.int 4), .val (.int md), .val (.int g), .val (.int bb), .val (.ref b1), .unset, .unset, .unset, .unset, .unset, .unset] [(.int 4)]))) (fun t k => XS.iload X3.here hx rfl (hb hby at_194) rfl k) ?_
    obtain ⟨T25, h25, k25, X25, e25, E25, A25, st25⟩ := newP X3 hx hZ (ow hw 32 rfl) rfl (g := (mkF m 196 #[.val (.int p0), .val (.int p1), .val (.int p2), .val (.int p3), .val (.int p4), .val (.int kk), .val (.int off), .val (.int 4), .val (.int md), .val (.int g), .val (.int bb), .val (.ref b1), .unset, .unset, .unset, .unset, .unset, .unset] [(.int 4)])) rfl (hb hby at_196) rfl (by decide) (cap := 4) (by decide) (by decide) (by decide) (by decide)
    obtain ⟨b25, g25⟩ : ∃ z, z = T3.heap.size := ⟨_, rfl⟩
    rw [← g25] at A25 st25
    have ne_b1_b25 : b1 ≠ b25 := Nat.ne_of_lt (Nat.lt_of_lt_of_le o3_0.lt (Nat.le_of_eq g25.symm))
    have ne_b3_0_b25 : b3_0 ≠ b25 := Nat.ne_of_lt (Nat.lt_of_lt_of_le o3_4.lt (Nat.le_of_eq g25.symm))
    have g_b25 : n0 ≤ b25 := Nat.le_trans f4_0 (Nat.le_of_eq g25.symm)
    have f26_0 := Nat.le_trans f4_0 E25.1
    have f26_1 := o3_0.ext E25
    have f26_2 := o3_1.ext E25
    have f26_3 := o3_2.ext E25
    have f26_4 := o3_3.ext E25
    have f26_5 := o3_4.ext E25
    have V25 : Arv Z h25 b25 k25 .int (4 : Int32) [(.int 0), (.int 0), (.int 0), (.int 0)] (.int 0) := (Arv.new A25 (by decide)).pad (pad_rep [] (.int 0) 4)
    refine Wp.back (U' := (T25.setTop (mkF m 198 #[.val (.int p0), .val (.int p1), .val (.int p2), .val (.int p3), .val (.int p4), .val (.int kk), .val (.int off), .val (.int 4), .val (.int md), .val (.int g), .val (.int bb), .val (.ref b1), .unset, .unset, .unset, .unset, .unset, .unset] [(.ref b25)]))) st25 ?_
    refine Wp.back (U' := (T25.setTop (mkF m 215 #[.val (.int p0), .val (.int p1), .val (.int p2), .val (.int p3), .val (.int p4), .val (.int kk), .val (.int off), .val (.int 4), .val (.int md), .val (.int g), .val (.int bb), .val (.ref b1), .val (.ref b25), .unset, .unset, .unset, .unset, .unset] [(.int ((p1 &&& (2147483647 : Int32)) % md)), (.int 0), (.ref b25)]))) (fun t k => XS.astore X25.here hx rfl (hb hby at_198) rfl rfl (l' := #[.val (.int p0), .val (.int p1), .val (.int p2), .val (.int p3), .val (.int p4), .val (.int kk), .val (.int off), .val (.int 4), .val (.int md), .val (.int g), .val (.int bb), .val (.ref b1), .val (.ref b25), .unset, .unset, .unset, .unset, .unset]) rfl (XS.iload X25.here hx rfl (hb hby at_200) rfl (XS.ifNo X25.here hx rfl (hb hby at_202) rfl ((if0 _ _).trans (tlt (by decide)).2.2.2) (XS.aload X25.here hx rfl (hb hby at_205) rfl rfl (XT.iconstV X25.here hx rfl 0 (hb hby at_207) (by decide) (XS.iloadN X25.here hx rfl (hb hby at_208) rfl (Jvm.Stand.ldcI X25 hx hown (mvT hZ (ow hw 52 rfl)) rfl (hb hby at_209) (XS.iand X25.here hx rfl (hb hby at_211) rfl (XS.iload X25.here hx rfl (hb hby at_212) rfl (iremM X25 hx rfl (hb hby at_214) rfl (own_md hok).1 k)))))))))) ?_
    have vq27 := V25
    obtain ⟨cl27, Ar27, qa27, qs27, qn27, qh27, qg27⟩ := vq27
    have hin27 : ¬ ((0 : Int32) < 0 ∨ cl27.slots.size ≤ ((0 : Int32)).toNatClampNeg) := inb_of qs27 ⟨by decide, by decide⟩
    obtain ⟨T27, h27, X27, e27, W27, st27⟩ := stI X25 hx hZ e25 Ar27 (j := (0 : Int32)) hin27 (g := (mkF m 215 #[.val (.int p0), .val (.int p1), .val (.int p2), .val (.int p3), .val (.int p4), .val (.int kk), .val (.int off), .val (.int 4), .val (.int md), .val (.int g), .val (.int bb), .val (.ref b1), .val (.ref b25), .unset, .unset, .unset, .unset, .unset] [(.int ((p1 &&& (2147483647 : Int32)) % md)), (.int 0), (.ref b25)])) rfl rfl (hb hby at_215)
    have V27 : Arv Z h27 b25 k25 .int (4 : Int32) [(.int ((p1 &&& (2147483647 : Int32)) % md)), (.int 0), (.int 0), (.int 0)] (.int 0) := Arv.set Ar27 qa27 qs27 qn27 qh27 qg27 rfl W27 0 rfl (Nat.le_of_ble_eq_true rfl)
    have f28_0 := Nat.le_trans f26_0 (Keep.of_wr W27).1
    have f28_1 := f26_1.wr W27
    have f28_2 := f26_2.other W27 (Or.inl ne_b1_b25)
    have f28_3 := f26_3.other W27 (Or.inl ne_b1_b25)
    have f28_4 := f26_4.other W27 (Or.inl ne_b1_b25)
    have f28_5 := f26_5.other W27 ne_b3_0_b25
    have N27 := Fr.snoc X27 N3 g_b25
    refine Wp.back (U' := (T27.setTop (mkF m 216 #[.val (.int p0), .val (.int p1), .val (.int p2), .val (.int p3), .val (.int p4), .val (.int kk), .val (.int off), .val (.int 4), .val (.int md), .val (.int g), .val (.int bb), .val (.ref b1), .val (.ref b25), .unset, .unset, .unset, .unset, .unset] []))) st27 ?_
    refine Wp.back (U' := (T27.setTop (mkF m 232 #[.val (.int p0), .val (.int p1), .val (.int p2), .val (.int p3), .val (.int p4), .val (.int kk), .val (.int off), .val (.int 4), .val (.int md), .val (.int g), .val (.int bb), .val (.ref b1), .val (.ref b25), .unset, .unset, .unset, .unset, .unset] [(.int ((p2 &&& (2147483647 : Int32)) % md)), (.int 1), (.ref b25)]))) (fun t k => XS.iload X27.here hx rfl (hb hby at_216) rfl (XT.iconstV X27.here hx rfl 1 (hb hby at_218) (by decide) (XS.icmpNo X27.here hx rfl (hb hby at_219) rfl (tlt (by decide)).2.2.2 (XS.aload X27.here hx rfl (hb hby at_222) rfl rfl (XT.iconstV X27.here hx rfl 1 (hb hby at_224) (by decide) (XS.iloadN X27.here hx rfl (hb hby at_225) rfl (Jvm.Stand.ldcI X27 hx hown (mvT hZ (ow hw 52 rfl)) rfl (hb hby at_226) (XS.iand X27.here hx rfl (hb hby at_228) rfl (XS.iload X27.here hx rfl (hb hby at_229) rfl (iremM X27 hx rfl (hb hby at_231) rfl (own_md hok).1 k)))))))))) ?_
    have vq29 := V27
    obtain ⟨cl29, Ar29, qa29, qs29, qn29, qh29, qg29⟩ := vq29
    have hin29 : ¬ ((1 : Int32) < 0 ∨ cl29.slots.size ≤ ((1 : Int32)).toNatClampNeg) := inb_of qs29 ⟨by decide, by decide⟩
    obtain ⟨T29, h29, X29, e29, W29, st29⟩ := stI X27 hx hZ e27 Ar29 (j := (1 : Int32)) hin29 (g := (mkF m 232 #[.val (.int p0), .val (.int p1), .val (.int p2), .val (.int p3), .val (.int p4), .val (.int kk), .val (.int off), .val (.int 4), .val (.int md), .val (.int g), .val (.int bb), .val (.ref b1), .val (.ref b25), .unset, .unset, .unset, .unset, .unset] [(.int ((p2 &&& (2147483647 : Int32)) % md)), (.int 1), (.ref b25)])) rfl rfl (hb hby at_232)
    have V29 : Arv Z h29 b25 k25 .int (4 : Int32) [(.int ((p1 &&& (2147483647 : Int32)) % md)), (.int ((p2 &&& (2147483647 : Int32)) % md)), (.int 0), (.int 0)] (.int 0) := Arv.set Ar29 qa29 qs29 qn29 qh29 qg29 rfl W29 1 rfl (Nat.le_of_ble_eq_true rfl)
    have f30_0 := Nat.le_trans f28_0 (Keep.of_wr W29).1
    have f30_1 := f28_1.wr W29
    have f30_2 := f28_2.other W29 (Or.inl ne_b1_b25)
    have f30_3 := f28_3.other W29 (Or.inl ne_b1_b25)
    have f30_4 := f28_4.other W29 (Or.inl ne_b1_b25)
    have f30_5 := f28_5.other W29 ne_b3_0_b25
    have N29 := Fr.snoc X29 N27 g_b25
    refine Wp.back (U' := (T29.setTop (mkF m 233 #[.val (.int p0), .val (.int p1), .val (.int p2), .val (.int p3), .val (.int p4), .val (.int kk), .val (.int off), .val (.int 4), .val (.int md), .val (.int g), .val (.int bb), .val (.ref b1), .val (.ref b25), .unset, .unset, .unset, .unset, .unset] []))) st29 ?_
    refine Wp.back (U' := (T29.setTop (mkF m 249 #[.val (.int p0), .val (.int p1), .val (.int p2), .val (.int p3), .val (.int p4), .val (.int kk), .val (.int off), .val (.int 4), .val (.int md), .val (.int g), .val (.int bb), .val (.ref b1), .val (.ref b25), .unset, .unset, .unset, .unset, .unset] [(.int ((p3 &&& (2147483647 : Int32)) % md)), (.int 2), (.ref b25)]))) (fun t k => XS.iload X29.here hx rfl (hb hby at_233) rfl (XT.iconstV X29.here hx rfl 2 (hb hby at_235) (by decide) (XS.icmpNo X29.here hx rfl (hb hby at_236) rfl (tlt (by decide)).2.2.2 (XS.aload X29.here hx rfl (hb hby at_239) rfl rfl (XT.iconstV X29.here hx rfl 2 (hb hby at_241) (by decide) (XS.iloadN X29.here hx rfl (hb hby at_242) rfl (Jvm.Stand.ldcI X29 hx hown (mvT hZ (ow hw 52 rfl)) rfl (hb hby at_243) (XS.iand X29.here hx rfl (hb hby at_245) rfl (XS.iload X29.here hx rfl (hb hby at_246) rfl (iremM X29 hx rfl (hb hby at_248) rfl (own_md hok).1 k)))))))))) ?_
    have vq31 := V29
    obtain ⟨cl31, Ar31, qa31, qs31, qn31, qh31, qg31⟩ := vq31
    have hin31 : ¬ ((2 : Int32) < 0 ∨ cl31.slots.size ≤ ((2 : Int32)).toNatClampNeg) := inb_of qs31 ⟨by decide, by decide⟩
    obtain ⟨T31, h31, X31, e31, W31, st31⟩ := stI X29 hx hZ e29 Ar31 (j := (2 : Int32)) hin31 (g := (mkF m 249 #[.val (.int p0), .val (.int p1), .val (.int p2), .val (.int p3), .val (.int p4), .val (.int kk), .val (.int off), .val (.int 4), .val (.int md), .val (.int g), .val (.int bb), .val (.ref b1), .val (.ref b25), .unset, .unset, .unset, .unset, .unset] [(.int ((p3 &&& (2147483647 : Int32)) % md)), (.int 2), (.ref b25)])) rfl rfl (hb hby at_249)
    have V31 : Arv Z h31 b25 k25 .int (4 : Int32) [(.int ((p1 &&& (2147483647 : Int32)) % md)), (.int ((p2 &&& (2147483647 : Int32)) % md)), (.int ((p3 &&& (2147483647 : Int32)) % md)), (.int 0)] (.int 0) := Arv.set Ar31 qa31 qs31 qn31 qh31 qg31 rfl W31 2 rfl (Nat.le_of_ble_eq_true rfl)
    have f32_0 := Nat.le_trans f30_0 (Keep.of_wr W31).1
    have f32_1 := f30_1.wr W31
    have f32_2 := f30_2.other W31 (Or.inl ne_b1_b25)
    have f32_3 := f30_3.other W31 (Or.inl ne_b1_b25)
    have f32_4 := f30_4.other W31 (Or.inl ne_b1_b25)
    have f32_5 := f30_5.other W31 ne_b3_0_b25
    have N31 := Fr.snoc X31 N29 g_b25
    refine Wp.back (U' := (T31.setTop (mkF m 250 #[.val (.int p0), .val (.int p1), .val (.int p2), .val (.int p3), .val (.int p4), .val (.int kk), .val (.int off), .val (.int 4), .val (.int md), .val (.int g), .val (.int bb), .val (.ref b1), .val (.ref b25), .unset, .unset, .unset, .unset, .unset] []))) st31 ?_
    refine Wp.back (U' := (T31.setTop (mkF m 267 #[.val (.int p0), .val (.int p1), .val (.int p2), .val (.int p3), .val (.int p4), .val (.int kk), .val (.int off), .val (.int 4), .val (.int md), .val (.int g), .val (.int bb), .val (.ref b1), .val (.ref b25), .unset, .unset, .unset, .unset, .unset] [(.int ((p4 &&& (2147483647 : Int32)) % md)), (.int 3), (.ref b25)]))) (fun t k => XS.iload X31.here hx rfl (hb hby at_250) rfl (XT.iconstV X31.here hx rfl 3 (hb hby at_252) (by decide) (XS.icmpNo X31.here hx rfl (hb hby at_253) rfl (tlt (by decide)).2.2.2 (XS.aload X31.here hx rfl (hb hby at_256) rfl rfl (XT.iconstV X31.here hx rfl 3 (hb hby at_258) (by decide) (XS.iload X31.here hx rfl (hb hby at_259) rfl (Jvm.Stand.ldcI X31 hx hown (mvT hZ (ow hw 52 rfl)) rfl (hb hby at_261) (XS.iand X31.here hx rfl (hb hby at_263) rfl (XS.iload X31.here hx rfl (hb hby at_264) rfl (iremM X31 hx rfl (hb hby at_266) rfl (own_md hok).1 k)))))))))) ?_
    have vq33 := V31
    obtain ⟨cl33, Ar33, qa33, qs33, qn33, qh33, qg33⟩ := vq33
    have hin33 : ¬ ((3 : Int32) < 0 ∨ cl33.slots.size ≤ ((3 : Int32)).toNatClampNeg) := inb_of qs33 ⟨by decide, by decide⟩
    obtain ⟨T33, h33, X33, e33, W33, st33⟩ := stI X31 hx hZ e31 Ar33 (j := (3 : Int32)) hin33 (g := (mkF m 267 #[.val (.int p0), .val (.int p1), .val (.int p2), .val (.int p3), .val (.int p4), .val (.int kk), .val (.int off), .val (.int 4), .val (.int md), .val (.int g), .val (.int bb), .val (.ref b1), .val (.ref b25), .unset, .unset, .unset, .unset, .unset] [(.int ((p4 &&& (2147483647 : Int32)) % md)), (.int 3), (.ref b25)])) rfl rfl (hb hby at_267)
    have V33 : Arv Z h33 b25 k25 .int (4 : Int32) [(.int ((p1 &&& (2147483647 : Int32)) % md)), (.int ((p2 &&& (2147483647 : Int32)) % md)), (.int ((p3 &&& (2147483647 : Int32)) % md)), (.int ((p4 &&& (2147483647 : Int32)) % md))] (.int 0) := Arv.set Ar33 qa33 qs33 qn33 qh33 qg33 rfl W33 3 rfl (Nat.le_of_ble_eq_true rfl)
    have f34_0 := Nat.le_trans f32_0 (Keep.of_wr W33).1
    have f34_1 := f32_1.wr W33
    have f34_2 := f32_2.other W33 (Or.inl ne_b1_b25)
    have f34_3 := f32_3.other W33 (Or.inl ne_b1_b25)
    have f34_4 := f32_4.other W33 (Or.inl ne_b1_b25)
    have f34_5 := f32_5.other W33 ne_b3_0_b25
    have N33 := Fr.snoc X33 N31 g_b25
    refine Wp.back (U' := (T33.setTop (mkF m 268 #[.val (.int p0), .val (.int p1), .val (.int p2), .val (.int p3), .val (.int p4), .val (.int kk), .val (.int off), .val (.int 4), .val (.int md), .val (.int g), .val (.int bb), .val (.ref b1), .val (.ref b25), .unset, .unset, .unset, .unset, .unset] []))) st33 ?_
    exact own_tail (p0) (p1) (p2) (p3) (p4) (kk) (off) ((4 : Int32)) (md) (g) (bb) (b1) (b25) (b3_0) (k25) (k3_0) (own_f4 ((p1 &&& (2147483647 : Int32)) % md) ((p2 &&& (2147483647 : Int32)) % md) ((p3 &&& (2147483647 : Int32)) % md) ((p4 &&& (2147483647 : Int32)) % md)) hx hw hby hml hret hlk hZ hown (own_more X33 (by decide) (by decide)) e33 N33 f34_0 f34_1 f34_2 f34_3 f34_4 f34_5 (own_cv4 V33) hok hoff (by decide) (own_F4 (by have := own_md hok; omega) (own_cr hok _) (own_cr hok _) (own_cr hok _) (own_cr hok _)) (own_n4 (by decide))
theorem own_k (p0 : Int32) : (p0 &&& (7 : Int32)) = (0 : Int32) ∨ (p0 &&& (7 : Int32)) = (1 : Int32) ∨ (p0 &&& (7 : Int32)) = (2 : Int32) ∨ (p0 &&& (7 : Int32)) = (3 : Int32) ∨ (p0 &&& (7 : Int32)) = (4 : Int32) ∨ (p0 &&& (7 : Int32)) = (5 : Int32) ∨ (p0 &&& (7 : Int32)) = (6 : Int32) ∨ (p0 &&& (7 : Int32)) = (7 : Int32) := by
  have h1 := c_mask p0 7 3 (by decide) (by decide)
  have e0 : (0 : Int32).toInt = 0 := by decide
  have e1 : (1 : Int32).toInt = 1 := by decide
  have e2 : (2 : Int32).toInt = 2 := by decide
  have e3 : (3 : Int32).toInt = 3 := by decide
  have e4 : (4 : Int32).toInt = 4 := by decide
  have e5 : (5 : Int32).toInt = 5 := by decide
  have e6 : (6 : Int32).toInt = 6 := by decide
  have e7 : (7 : Int32).toInt = 7 := by decide
  simp only [← Int32.toInt_inj, e0, e1, e2, e3, e4, e5, e6, e7]
  omega
theorem own_ok1 : own_OK (5 : Int32) (3 : Int32) (8 : Int32) := Or.inr (Or.inr (Or.inr (⟨rfl, by decide +kernel, by decide +kernel⟩)))
theorem own_ok2 : own_OK (3 : Int32) (10 : Int32) (10 : Int32) := Or.inr (Or.inr (Or.inl ⟨rfl, by decide +kernel, by decide +kernel⟩))
theorem own_ok3 : own_OK (2 : Int32) (5 : Int32) (5 : Int32) := Or.inr (Or.inl ⟨rfl, by decide +kernel, by decide +kernel⟩)
theorem own_ok4 : own_OK (3 : Int32) (2 : Int32) (3 : Int32) := Or.inr (Or.inr (Or.inl ⟨rfl, by decide +kernel, by decide +kernel⟩))
theorem own_ok5 : own_OK (2 : Int32) (6 : Int32) (6 : Int32) := Or.inr (Or.inl ⟨rfl, by decide +kernel, by decide +kernel⟩)
theorem own_ok6 : own_OK (2 : Int32) (3 : Int32) (4 : Int32) := Or.inr (Or.inl ⟨rfl, by decide +kernel, by decide +kernel⟩)
theorem own_ok7 : own_OK (2 : Int32) (1000 : Int32) (20 : Int32) := Or.inr (Or.inl ⟨rfl, by decide +kernel, by decide +kernel⟩)
theorem own_ok0f : ∀ k : Fin 256, own_P1 ((2 : Int32) + Int32.ofNat k.val) (f_bl (((2 : Int32) + Int32.ofNat k.val) - (1 : Int32))) ∧ own_R1 ((2 : Int32) + Int32.ofNat k.val) (f_bl (((2 : Int32) + Int32.ofNat k.val) - (1 : Int32))) := by decide +kernel
theorem own_ok0 (z : Int32) : own_OK (1 : Int32) ((2 : Int32) + (z &&& (255 : Int32))) (f_bl (((2 : Int32) + (z &&& (255 : Int32))) - (1 : Int32))) := by
  have hb := c_mask z 255 8 (by decide) (by decide)
  have h := own_ok0f ⟨(z &&& (255 : Int32)).toInt.toNat, by omega⟩
  rw [show Int32.ofNat (⟨(z &&& (255 : Int32)).toInt.toNat, by omega⟩ : Fin 256).val = (z &&& (255 : Int32)) from (own_of _ (by omega)).symm] at h
  exact Or.inl ⟨rfl, h⟩
theorem own_off (x : Int32) : 0 ≤ (x &&& (3 : Int32)).toInt ∧ (x &&& (3 : Int32)).toInt ≤ 3 := by
  have h1 := c_mask x 3 2 (by decide) (by decide)
  omega
theorem own_n (p0 : Int32) : ((p0 &&& (7 : Int32)) % (5 : Int32)) = (0 : Int32) ∨ ((p0 &&& (7 : Int32)) % (5 : Int32)) = (1 : Int32) ∨ ((p0 &&& (7 : Int32)) % (5 : Int32)) = (2 : Int32) ∨ ((p0 &&& (7 : Int32)) % (5 : Int32)) = (3 : Int32) ∨ ((p0 &&& (7 : Int32)) % (5 : Int32)) = (4 : Int32) := by
  have h1 := c_mask p0 7 3 (by decide) (by decide)
  have h2 := (c_irem (p0 &&& 7) 5 5 (by decide)).1 (by omega)
  have e0 : (0 : Int32).toInt = 0 := by decide
  have e1 : (1 : Int32).toInt = 1 := by decide
  have e2 : (2 : Int32).toInt = 2 := by decide
  have e3 : (3 : Int32).toInt = 3 := by decide
  have e4 : (4 : Int32).toInt = 4 := by decide
  simp only [← Int32.toInt_inj, e0, e1, e2, e3, e4]
  omega
theorem pn0 : plainName "com/example/known_leaks/knownleaks/CellPackingWritePinLaw" = true := by first | (simp [plainName, overriddenIn]; done) | decide +kernel
theorem ef0_IIIII (m : MethodId) (x0 : Int32) (x1 : Int32) (x2 : Int32) (x3 : Int32) (x4 : Int32) : entryFrame m #[(.int x0), (.int x1), (.int x2), (.int x3), (.int x4)] maxLocals = mkF m 0 #[.val (.int x0), .val (.int x1), .val (.int x2), .val (.int x3), .val (.int x4), .unset, .unset, .unset, .unset, .unset, .unset, .unset, .unset, .unset, .unset, .unset, .unset, .unset] [] := by first | (simp [entryFrame, mkF, argsToLocals, Value.category, maxLocals]; done) | rfl
set_option maxRecDepth 65536 in
set_option maxHeartbeats 40000000 in
theorem rm_law (l : Launch) (Z : State) (a0 : Array Value) (hw : ∀ d ∈ tables_1, d.before a0 Z = true) (ws : List Jvm.Cond) (p0 : Int32) (p1 : Int32) (p2 : Int32) (p3 : Int32) (p4 : Int32)  (h0 : Heap) (n0 : Nat) (Z0 : n0 ≤ h0.size)  :
    MetFree l x (head1 (Jvm.Cond.code x code maxLocals ret :: ws) room_1) (fun a U => a = #[(.int p0), (.int p1), (.int p2), (.int p3), (.int p4)] ∧ Z.Warmed39 U.vm ∧ U.heap = h0) (fun _ _ _ _ _ => True) (fun _ U o U' => ∃ v L, o = .returned v ∧ QL n0 v U'.heap L ∧ FrameEnd U o U' L 24 128) := by
  refine MetFree.of_bodySF (plainFor_of_name pn0) hisR ?_
  intro p e s m args below meth c s₁ Bd hml0 hP hK
  obtain ⟨rfl, hZ, hh⟩ := hP
  have hx := Bd.exec
  have hby := Bd.bytes
  have hret := Bd.returns
  have hlk := Bd.notSynchronized
  have hml : c.maxLocals = 18 := hml0
  have hown : s.vm.findClass "com/example/known_leaks/knownleaks/CellPackingWritePinLaw" = some m.cls := findClass_of_methodNamed Bd.named
  have hnm := (name_of_methodNamed Bd.named Bd.method).1
  have X0 : Stand p l e room_1 s m #[(.int p0), (.int p1), (.int p2), (.int p3), (.int p4)] below meth c s₁ [] 0 0 := Stand.of_body Bd
  have e0 : s₁.heap = h0 := by rw [← hh, Bd.state]; rfl
  have N0 := Fr.nil n0
  show Wp p e below (fun o s₂ => ∃ v L, o = .returned v ∧ QL n0 v s₂.heap L ∧ FrameEnd s o s₂ L 24 128) _
  refine Wp.back (U' := (s₁.setTop (mkF m 0 #[.val (.int p0), .val (.int p1), .val (.int p2), .val (.int p3), .val (.int p4), .unset, .unset, .unset, .unset, .unset, .unset, .unset, .unset, .unset, .unset, .unset, .unset, .unset] []))) (fun t k => castTop (ef0_IIIII m p0 p1 p2 p3 p4) k) ?_
  refine Wp.back (U' := (s₁.setTop (mkF m 15 #[.val (.int p0), .val (.int p1), .val (.int p2), .val (.int p3), .val (.int p4), .val (.int (p0 &&& (7 : Int32))), .val (.int ((((p0).toUInt32 >>> ((3 : Int32) &&& 31).toUInt32).toInt32) &&& (3 : Int32))), .unset, .unset, .unset, .unset, .unset, .unset, .unset, .unset, .unset, .unset, .unset] [(.int 5), (.int p0)]))) (fun t k => XS.iloadN X0.here hx rfl (hb hby at_0) rfl (XT.bipushV X0.here hx rfl 7 (hb hby at_1) (by decide) (XS.iand X0.here hx rfl (hb hby at_3) rfl (XS.istore X0.here hx rfl (hb hby at_4) rfl (l' := #[.val (.int p0), .val (.int p1), .val (.int p2), .val (.int p3), .val (.int p4), .val (.int (p0 &&& (7 : Int32))), .unset, .unset, .unset, .unset, .unset, .unset, .unset, .unset, .unset, .unset, .unset, .unset]) rfl (XS.iloadN X0.here hx rfl (hb hby at_6) rfl (XT.iconstV X0.here hx rfl 3 (hb hby at_7) (by decide) (XS.iushr X0.here hx rfl (hb hby at_8) rfl (XT.iconstV X0.here hx rfl 3 (hb hby at_9) (by decide) (XS.iand X0.here hx rfl (hb hby at_10) rfl (XS.istore X0.here hx rfl (hb hby at_11) rfl (l' := #[.val (.int p0), .val (.int p1), .val (.int p2), .val (.int p3), .val (.int p4), .val (.int (p0 &&& (7 : Int32))), .val (.int ((((p0).toUInt32 >>> ((3 : Int32) &&& 31).toUInt32).toInt32) &&& (3 : Int32))), .unset, .unset, .unset, .unset, .unset, .unset, .unset, .unset, .unset, .unset, .unset]) rfl (XS.iloadN X0.here hx rfl (hb hby at_13) rfl (XT.iconstV X0.here hx rfl 5 (hb hby at_14) (by decide) k)))))))))))) ?_
  refine Wp.back (U' := (s₁.setTop (mkF m 23 #[.val (.int p0), .val (.int p1), .val (.int p2), .val (.int p3), .val (.int p4), .val (.int (p0 &&& (7 : Int32))), .val (.int ((((p0).toUInt32 >>> ((3 : Int32) &&& 31).toUInt32).toInt32) &&& (3 : Int32))), .val (.int (((((p0).toUInt32 >>> ((5 : Int32) &&& 31).toUInt32).toInt32) &&& (7 : Int32)) % (5 : Int32))), .unset, .unset, .unset, .unset, .unset, .unset, .unset, .unset, .unset, .unset] []))) (fun t k => XS.iushr X0.here hx rfl (hb hby at_15) rfl (XT.bipushV X0.here hx rfl 7 (hb hby at_16) (by decide) (XS.iand X0.here hx rfl (hb hby at_18) rfl (XT.iconstV X0.here hx rfl 5 (hb hby at_19) (by decide) (iremM X0 hx rfl (hb hby at_20) rfl (by decide) (XS.istore X0.here hx rfl (hb hby at_21) rfl (l' := #[.val (.int p0), .val (.int p1), .val (.int p2), .val (.int p3), .val (.int p4), .val (.int (p0 &&& (7 : Int32))), .val (.int ((((p0).toUInt32 >>> ((3 : Int32) &&& 31).toUInt32).toInt32) &&& (3 : Int32))), .val (.int (((((p0).toUInt32 >>> ((5 : Int32) &&& 31).toUInt32).toInt32) &&& (7 : Int32)) % (5 : Int32))), .unset, .unset, .unset, .unset, .unset, .unset, .unset, .unset, .unset, .unset]) rfl k)))))) ?_
  rcases own_k p0 with hk1 | hk2 | hk3 | hk4 | hk5 | hk6 | hk7 | hk8
  · rw [hk1]
    refine Wp.back (U' := (s₁.setTop (mkF m 43 #[.val (.int p0), .val (.int p1), .val (.int p2), .val (.int p3), .val (.int p4), .val (.int 0), .val (.int ((((p0).toUInt32 >>> ((3 : Int32) &&& 31).toUInt32).toInt32) &&& (3 : Int32))), .val (.int (((((p0).toUInt32 >>> ((5 : Int32) &&& 31).toUInt32).toInt32) &&& (7 : Int32)) % (5 : Int32))), .val (.int ((2 : Int32) + ((((p0).toUInt32 >>> ((8 : Int32) &&& 31).toUInt32).toInt32) &&& (255 : Int32)))), .val (.int 1), .unset, .unset, .unset, .unset, .unset, .unset, .unset, .unset] []))) (fun t k => XS.iload X0.here hx rfl (hb hby at_23) rfl (XS.ifNo X0.here hx rfl (hb hby at_25) rfl ((if0 _ _).trans (teq (by decide)).2) (XT.iconstV X0.here hx rfl 2 (hb hby at_28) (by decide) (XS.iloadN X0.here hx rfl (hb hby at_29) rfl (XT.bipushV X0.here hx rfl 8 (hb hby at_30) (by decide) (XS.iushr X0.here hx rfl (hb hby at_32) rfl (XT.sipushV X0.here hx rfl 255 (hb hby at_33) (by decide) (XS.iand X0.here hx rfl (hb hby at_36) rfl (XS.iadd X0.here hx rfl (hb hby at_37) rfl (XS.istore X0.here hx rfl (hb hby at_38) rfl (l' := #[.val (.int p0), .val (.int p1), .val (.int p2), .val (.int p3), .val (.int p4), .val (.int 0), .val (.int ((((p0).toUInt32 >>> ((3 : Int32) &&& 31).toUInt32).toInt32) &&& (3 : Int32))), .val (.int (((((p0).toUInt32 >>> ((5 : Int32) &&& 31).toUInt32).toInt32) &&& (7 : Int32)) % (5 : Int32))), .val (.int ((2 : Int32) + ((((p0).toUInt32 >>> ((8 : Int32) &&& 31).toUInt32).toInt32) &&& (255 : Int32)))), .unset, .unset, .unset, .unset, .unset, .unset, .unset, .unset, .unset]) rfl (XT.iconstV X0.here hx rfl 1 (hb hby at_40) (by decide) (XS.istore X0.here hx rfl (hb hby at_41) rfl (l' := #[.val (.int p0), .val (.int p1), .val (.int p2), .val (.int p3), .val (.int p4), .val (.int 0), .val (.int ((((p0).toUInt32 >>> ((3 : Int32) &&& 31).toUInt32).toInt32) &&& (3 : Int32))), .val (.int (((((p0).toUInt32 >>> ((5 : Int32) &&& 31).toUInt32).toInt32) &&& (7 : Int32)) % (5 : Int32))), .val (.int ((2 : Int32) + ((((p0).toUInt32 >>> ((8 : Int32) &&& 31).toUInt32).toInt32) &&& (255 : Int32)))), .val (.int 1), .unset, .unset, .unset, .unset, .unset, .unset, .unset, .unset]) rfl k)))))))))))) ?_
    refine Wp.back (U' := (s₁.setTop (mkF m 47 #[.val (.int p0), .val (.int p1), .val (.int p2), .val (.int p3), .val (.int p4), .val (.int 0), .val (.int ((((p0).toUInt32 >>> ((3 : Int32) &&& 31).toUInt32).toInt32) &&& (3 : Int32))), .val (.int (((((p0).toUInt32 >>> ((5 : Int32) &&& 31).toUInt32).toInt32) &&& (7 : Int32)) % (5 : Int32))), .val (.int ((2 : Int32) + ((((p0).toUInt32 >>> ((8 : Int32) &&& 31).toUInt32).toInt32) &&& (255 : Int32)))), .val (.int 1), .unset, .unset, .unset, .unset, .unset, .unset, .unset, .unset] [(.int (((2 : Int32) + ((((p0).toUInt32 >>> ((8 : Int32) &&& 31).toUInt32).toInt32) &&& (255 : Int32))) - (1 : Int32)))]))) (fun t k => XS.iload X0.here hx rfl (hb hby at_43) rfl (XT.iconstV X0.here hx rfl 1 (hb hby at_45) (by decide) (XS.isub X0.here hx rfl (hb hby at_46) rfl k))) ?_
    obtain ⟨_, _, ⟨T9, L9, k9, n9⟩, -, X9, ⟨Lc9, hQ9, l9, y9, z9⟩, st9⟩ := Jvm.LawKit.callS X0 hx (y := Y3) hown (mvT hZ (ow hw 0 rfl)) (mvT hZ (ow hw 1 rfl)) (mvT hZ (ow hw 2 rfl)) (mvT hZ (ow hw 3 rfl)) (by decide) (backOf (W := 0) (rm_f_bl l Z a0 hw [] (((2 : Int32) + ((((p0).toUInt32 >>> ((8 : Int32) &&& 31).toUInt32).toInt32) &&& (255 : Int32))) - (1 : Int32)) h0 n0 Z0 ) hZ (ow hw 3 rfl) (ow hw 2 rfl) (by decide) (by decide)) (g := (mkF m 47 #[.val (.int p0), .val (.int p1), .val (.int p2), .val (.int p3), .val (.int p4), .val (.int 0), .val (.int ((((p0).toUInt32 >>> ((3 : Int32) &&& 31).toUInt32).toInt32) &&& (3 : Int32))), .val (.int (((((p0).toUInt32 >>> ((5 : Int32) &&& 31).toUInt32).toInt32) &&& (7 : Int32)) % (5 : Int32))), .val (.int ((2 : Int32) + ((((p0).toUInt32 >>> ((8 : Int32) &&& 31).toUInt32).toInt32) &&& (255 : Int32)))), .val (.int 1), .unset, .unset, .unset, .unset, .unset, .unset, .unset, .unset] [(.int (((2 : Int32) + ((((p0).toUInt32 >>> ((8 : Int32) &&& 31).toUInt32).toInt32) &&& (255 : Int32))) - (1 : Int32)))])) rfl (by rw [hml]; rfl) (argsL := [(.int (((2 : Int32) + ((((p0).toUInt32 >>> ((8 : Int32) &&& 31).toUInt32).toInt32) &&& (255 : Int32))) - (1 : Int32)))]) (rest := []) (lenOf pd_0 rfl) rfl (Nat.le_of_eq rfl) (hb hby at_47) (fun _ _ => ⟨rfl, e0, (by decide : 0 + 0 ≤ _), (by decide : 0 + 0 ≤ _)⟩)
    dsimp only [Pt.U, Pt.locs, Pt.cells, Pt.slots] at X9 l9 y9 z9 st9 hQ9
    subst l9 y9 z9
    obtain ⟨rfl, N9q, e9⟩ := hQ9
    have N9 := Fr.app N0 N9q
    refine Wp.back (U' := (T9.setTop (mkF m 50 #[.val (.int p0), .val (.int p1), .val (.int p2), .val (.int p3), .val (.int p4), .val (.int 0), .val (.int ((((p0).toUInt32 >>> ((3 : Int32) &&& 31).toUInt32).toInt32) &&& (3 : Int32))), .val (.int (((((p0).toUInt32 >>> ((5 : Int32) &&& 31).toUInt32).toInt32) &&& (7 : Int32)) % (5 : Int32))), .val (.int ((2 : Int32) + ((((p0).toUInt32 >>> ((8 : Int32) &&& 31).toUInt32).toInt32) &&& (255 : Int32)))), .val (.int 1), .unset, .unset, .unset, .unset, .unset, .unset, .unset, .unset] [(.int (f_bl (((2 : Int32) + ((((p0).toUInt32 >>> ((8 : Int32) &&& 31).toUInt32).toInt32) &&& (255 : Int32))) - (1 : Int32))))]))) st9 ?_
    refine Wp.back (U' := (T9.setTop (mkF m 181 #[.val (.int p0), .val (.int p1), .val (.int p2), .val (.int p3), .val (.int p4), .val (.int 0), .val (.int ((((p0).toUInt32 >>> ((3 : Int32) &&& 31).toUInt32).toInt32) &&& (3 : Int32))), .val (.int (((((p0).toUInt32 >>> ((5 : Int32) &&& 31).toUInt32).toInt32) &&& (7 : Int32)) % (5 : Int32))), .val (.int ((2 : Int32) + ((((p0).toUInt32 >>> ((8 : Int32) &&& 31).toUInt32).toInt32) &&& (255 : Int32)))), .val (.int 1), .val (.int (f_bl (((2 : Int32) + ((((p0).toUInt32 >>> ((8 : Int32) &&& 31).toUInt32).toInt32) &&& (255 : Int32))) - (1 : Int32)))), .unset, .unset, .unset, .unset, .unset, .unset, .unset] []))) (fun t k => XS.istore X9.here hx rfl (hb hby at_50) rfl (l' := #[.val (.int p0), .val (.int p1), .val (.int p2), .val (.int p3), .val (.int p4), .val (.int 0), .val (.int ((((p0).toUInt32 >>> ((3 : Int32) &&& 31).toUInt32).toInt32) &&& (3 : Int32))), .val (.int (((((p0).toUInt32 >>> ((5 : Int32) &&& 31).toUInt32).toInt32) &&& (7 : Int32)) % (5 : Int32))), .val (.int ((2 : Int32) + ((((p0).toUInt32 >>> ((8 : Int32) &&& 31).toUInt32).toInt32) &&& (255 : Int32)))), .val (.int 1), .val (.int (f_bl (((2 : Int32) + ((((p0).toUInt32 >>> ((8 : Int32) &&& 31).toUInt32).toInt32) &&& (255 : Int32))) - (1 : Int32)))), .unset, .unset, .unset, .unset, .unset, .unset, .unset]) rfl (XS.goto X9.here hx rfl (pc0 := 52) (pc' := 181) rfl (hb hby at_52) (by decide) (by decide) k)) ?_
    exact own_main (p0) (p1) (p2) (p3) (p4) ((0 : Int32)) (((((p0).toUInt32 >>> ((3 : Int32) &&& 31).toUInt32).toInt32) &&& (3 : Int32))) ((((((p0).toUInt32 >>> ((5 : Int32) &&& 31).toUInt32).toInt32) &&& (7 : Int32)) % (5 : Int32))) (((2 : Int32) + ((((p0).toUInt32 >>> ((8 : Int32) &&& 31).toUInt32).toInt32) &&& (255 : Int32)))) ((1 : Int32)) ((f_bl (((2 : Int32) + ((((p0).toUInt32 >>> ((8 : Int32) &&& 31).toUInt32).toInt32) &&& (255 : Int32))) - (1 : Int32)))) hx hw hby hml hret hlk hZ hown X9 e9 N9 Z0 (own_ok0 _) (own_off _) (own_n _)
  · rw [hk2]
    refine Wp.back (U' := (s₁.setTop (mkF m 181 #[.val (.int p0), .val (.int p1), .val (.int p2), .val (.int p3), .val (.int p4), .val (.int 1), .val (.int ((((p0).toUInt32 >>> ((3 : Int32) &&& 31).toUInt32).toInt32) &&& (3 : Int32))), .val (.int (((((p0).toUInt32 >>> ((5 : Int32) &&& 31).toUInt32).toInt32) &&& (7 : Int32)) % (5 : Int32))), .val (.int 3), .val (.int 5), .val (.int 8), .unset, .unset, .unset, .unset, .unset, .unset, .unset] []))) (fun t k => XS.iload X0.here hx rfl (hb hby at_23) rfl (XS.ifYes X0.here hx rfl (pc0 := 25) (pc' := 55) rfl (hb hby at_25) rfl ((if0 _ _).trans (feq (by decide)).2) (by decide) (by decide) (XS.iload X0.here hx rfl (hb hby at_55) rfl (XT.iconstV X0.here hx rfl 1 (hb hby at_57) (by decide) (XS.icmpNo X0.here hx rfl (hb hby at_58) rfl (teq (by decide)).2 (XT.iconstV X0.here hx rfl 3 (hb hby at_61) (by decide) (XS.istore X0.here hx rfl (hb hby at_62) rfl (l' := #[.val (.int p0), .val (.int p1), .val (.int p2), .val (.int p3), .val (.int p4), .val (.int 1), .val (.int ((((p0).toUInt32 >>> ((3 : Int32) &&& 31).toUInt32).toInt32) &&& (3 : Int32))), .val (.int (((((p0).toUInt32 >>> ((5 : Int32) &&& 31).toUInt32).toInt32) &&& (7 : Int32)) % (5 : Int32))), .val (.int 3), .unset, .unset, .unset, .unset, .unset, .unset, .unset, .unset, .unset]) rfl (XT.iconstV X0.here hx rfl 5 (hb hby at_64) (by decide) (XS.istore X0.here hx rfl (hb hby at_65) rfl (l' := #[.val (.int p0), .val (.int p1), .val (.int p2), .val (.int p3), .val (.int p4), .val (.int 1), .val (.int ((((p0).toUInt32 >>> ((3 : Int32) &&& 31).toUInt32).toInt32) &&& (3 : Int32))), .val (.int (((((p0).toUInt32 >>> ((5 : Int32) &&& 31).toUInt32).toInt32) &&& (7 : Int32)) % (5 : Int32))), .val (.int 3), .val (.int 5), .unset, .unset, .unset, .unset, .unset, .unset, .unset, .unset]) rfl (XT.bipushV X0.here hx rfl 8 (hb hby at_67) (by decide) (XS.istore X0.here hx rfl (hb hby at_69) rfl (l' := #[.val (.int p0), .val (.int p1), .val (.int p2), .val (.int p3), .val (.int p4), .val (.int 1), .val (.int ((((p0).toUInt32 >>> ((3 : Int32) &&& 31).toUInt32).toInt32) &&& (3 : Int32))), .val (.int (((((p0).toUInt32 >>> ((5 : Int32) &&& 31).toUInt32).toInt32) &&& (7 : Int32)) % (5 : Int32))), .val (.int 3), .val (.int 5), .val (.int 8), .unset, .unset, .unset, .unset, .unset, .unset, .unset]) rfl (XS.goto X0.here hx rfl (pc0 := 71) (pc' := 181) rfl (hb hby at_71) (by decide) (by decide) k)))))))))))) ?_
    exact own_main (p0) (p1) (p2) (p3) (p4) ((1 : Int32)) (((((p0).toUInt32 >>> ((3 : Int32) &&& 31).toUInt32).toInt32) &&& (3 : Int32))) ((((((p0).toUInt32 >>> ((5 : Int32) &&& 31).toUInt32).toInt32) &&& (7 : Int32)) % (5 : Int32))) ((3 : Int32)) ((5 : Int32)) ((8 : Int32)) hx hw hby hml hret hlk hZ hown X0 e0 N0 Z0 own_ok1 (own_off _) (own_n _)
  · rw [hk3]
    refine Wp.back (U' := (s₁.setTop (mkF m 87 #[.val (.int p0), .val (.int p1), .val (.int p2), .val (.int p3), .val (.int p4), .val (.int 2), .val (.int ((((p0).toUInt32 >>> ((3 : Int32) &&& 31).toUInt32).toInt32) &&& (3 : Int32))), .val (.int (((((p0).toUInt32 >>> ((5 : Int32) &&& 31).toUInt32).toInt32) &&& (7 : Int32)) % (5 : Int32))), .val (.int 10), .val (.int 3), .unset, .unset, .unset, .unset, .unset, .unset, .unset, .unset] []))) (fun t k => XS.iload X0.here hx rfl (hb hby at_23) rfl (XS.ifYes X0.here hx rfl (pc0 := 25) (pc' := 55) rfl (hb hby at_25) rfl ((if0 _ _).trans (feq (by decide)).2) (by decide) (by decide) (XS.iload X0.here hx rfl (hb hby at_55) rfl (XT.iconstV X0.here hx rfl 1 (hb hby at_57) (by decide) (XS.icmpYes X0.here hx rfl (pc0 := 58) (pc' := 74) rfl (hb hby at_58) rfl (feq (by decide)).2 (by decide) (by decide) (XS.iload X0.here hx rfl (hb hby at_74) rfl (XT.iconstV X0.here hx rfl 2 (hb hby at_76) (by decide) (XS.icmpNo X0.here hx rfl (hb hby at_77) rfl (teq (by decide)).2 (XT.bipushV X0.here hx rfl 10 (hb hby at_80) (by decide) (XS.istore X0.here hx rfl (hb hby at_82) rfl (l' := #[.val (.int p0), .val (.int p1), .val (.int p2), .val (.int p3), .val (.int p4), .val (.int 2), .val (.int ((((p0).toUInt32 >>> ((3 : Int32) &&& 31).toUInt32).toInt32) &&& (3 : Int32))), .val (.int (((((p0).toUInt32 >>> ((5 : Int32) &&& 31).toUInt32).toInt32) &&& (7 : Int32)) % (5 : Int32))), .val (.int 10), .unset, .unset, .unset, .unset, .unset, .unset, .unset, .unset, .unset]) rfl (XT.iconstV X0.here hx rfl 3 (hb hby at_84) (by decide) (XS.istore X0.here hx rfl (hb hby at_85) rfl (l' := #[.val (.int p0), .val (.int p1), .val (.int p2), .val (.int p3), .val (.int p4), .val (.int 2), .val (.int ((((p0).toUInt32 >>> ((3 : Int32) &&& 31).toUInt32).toInt32) &&& (3 : Int32))), .val (.int (((((p0).toUInt32 >>> ((5 : Int32) &&& 31).toUInt32).toInt32) &&& (7 : Int32)) % (5 : Int32))), .val (.int 10), .val (.int 3), .unset, .unset, .unset, .unset, .unset, .unset, .unset, .unset]) rfl k)))))))))))) ?_
    refine Wp.back (U' := (s₁.setTop (mkF m 181 #[.val (.int p0), .val (.int p1), .val (.int p2), .val (.int p3), .val (.int p4), .val (.int 2), .val (.int ((((p0).toUInt32 >>> ((3 : Int32) &&& 31).toUInt32).toInt32) &&& (3 : Int32))), .val (.int (((((p0).toUInt32 >>> ((5 : Int32) &&& 31).toUInt32).toInt32) &&& (7 : Int32)) % (5 : Int32))), .val (.int 10), .val (.int 3), .val (.int 10), .unset, .unset, .unset, .unset, .unset, .unset, .unset] []))) (fun t k => XT.bipushV X0.here hx rfl 10 (hb hby at_87) (by decide) (XS.istore X0.here hx rfl (hb hby at_89) rfl (l' := #[.val (.int p0), .val (.int p1), .val (.int p2), .val (.int p3), .val (.int p4), .val (.int 2), .val (.int ((((p0).toUInt32 >>> ((3 : Int32) &&& 31).toUInt32).toInt32) &&& (3 : Int32))), .val (.int (((((p0).toUInt32 >>> ((5 : Int32) &&& 31).toUInt32).toInt32) &&& (7 : Int32)) % (5 : Int32))), .val (.int 10), .val (.int 3), .val (.int 10), .unset, .unset, .unset, .unset, .unset, .unset, .unset]) rfl (XS.goto X0.here hx rfl (pc0 := 91) (pc' := 181) rfl (hb hby at_91) (by decide) (by decide) k))) ?_
    exact own_main (p0) (p1) (p2) (p3) (p4) ((2 : Int32)) (((((p0).toUInt32 >>> ((3 : Int32) &&& 31).toUInt32).toInt32) &&& (3 : Int32))) ((((((p0).toUInt32 >>> ((5 : Int32) &&& 31).toUInt32).toInt32) &&& (7 : Int32)) % (5 : Int32))) ((10 : Int32)) ((3 : Int32)) ((10 : Int32)) hx hw hby hml hret hlk hZ hown X0 e0 N0 Z0 own_ok2 (own_off _) (own_n _)
  · rw [hk4]
    refine Wp.back (U' := (s₁.setTop (mkF m 101 #[.val (.int p0), .val (.int p1), .val (.int p2), .val (.int p3), .val (.int p4), .val (.int 3), .val (.int ((((p0).toUInt32 >>> ((3 : Int32) &&& 31).toUInt32).toInt32) &&& (3 : Int32))), .val (.int (((((p0).toUInt32 >>> ((5 : Int32) &&& 31).toUInt32).toInt32) &&& (7 : Int32)) % (5 : Int32))), .unset, .unset, .unset, .unset, .unset, .unset, .unset, .unset, .unset, .unset] [(.int 5)]))) (fun t k => XS.iload X0.here hx rfl (hb hby at_23) rfl (XS.ifYes X0.here hx rfl (pc0 := 25) (pc' := 55) rfl (hb hby at_25) rfl ((if0 _ _).trans (feq (by decide)).2) (by decide) (by decide) (XS.iload X0.here hx rfl (hb hby at_55) rfl (XT.iconstV X0.here hx rfl 1 (hb hby at_57) (by decide) (XS.icmpYes X0.here hx rfl (pc0 := 58) (pc' := 74) rfl (hb hby at_58) rfl (feq (by decide)).2 (by decide) (by decide) (XS.iload X0.here hx rfl (hb hby at_74) rfl (XT.iconstV X0.here hx rfl 2 (hb hby at_76) (by decide) (XS.icmpYes X0.here hx rfl (pc0 := 77) (pc' := 94) rfl (hb hby at_77) rfl (feq (by decide)).2 (by decide) (by decide) (XS.iload X0.here hx rfl (hb hby at_94) rfl (XT.iconstV X0.here hx rfl 3 (hb hby at_96) (by decide) (XS.icmpNo X0.here hx rfl (hb hby at_97) rfl (teq (by decide)).2 (XT.iconstV X0.here hx rfl 5 (hb hby at_100) (by decide) k)))))))))))) ?_
    refine Wp.back (U' := (s₁.setTop (mkF m 181 #[.val (.int p0), .val (.int p1), .val (.int p2), .val (.int p3), .val (.int p4), .val (.int 3), .val (.int ((((p0).toUInt32 >>> ((3 : Int32) &&& 31).toUInt32).toInt32) &&& (3 : Int32))), .val (.int (((((p0).toUInt32 >>> ((5 : Int32) &&& 31).toUInt32).toInt32) &&& (7 : Int32)) % (5 : Int32))), .val (.int 5), .val (.int 2), .val (.int 5), .unset, .unset, .unset, .unset, .unset, .unset, .unset] []))) (fun t k => XS.istore X0.here hx rfl (hb hby at_101) rfl (l' := #[.val (.int p0), .val (.int p1), .val (.int p2), .val (.int p3), .val (.int p4), .val (.int 3), .val (.int ((((p0).toUInt32 >>> ((3 : Int32) &&& 31).toUInt32).toInt32) &&& (3 : Int32))), .val (.int (((((p0).toUInt32 >>> ((5 : Int32) &&& 31).toUInt32).toInt32) &&& (7 : Int32)) % (5 : Int32))), .val (.int 5), .unset, .unset, .unset, .unset, .unset, .unset, .unset, .unset, .unset]) rfl (XT.iconstV X0.here hx rfl 2 (hb hby at_103) (by decide) (XS.istore X0.here hx rfl (hb hby at_104) rfl (l' := #[.val (.int p0), .val (.int p1), .val (.int p2), .val (.int p3), .val (.int p4), .val (.int 3), .val (.int ((((p0).toUInt32 >>> ((3 : Int32) &&& 31).toUInt32).toInt32) &&& (3 : Int32))), .val (.int (((((p0).toUInt32 >>> ((5 : Int32) &&& 31).toUInt32).toInt32) &&& (7 : Int32)) % (5 : Int32))), .val (.int 5), .val (.int 2), .unset, .unset, .unset, .unset, .unset, .unset, .unset, .unset]) rfl (XT.iconstV X0.here hx rfl 5 (hb hby at_106) (by decide) (XS.istore X0.here hx rfl (hb hby at_107) rfl (l' := #[.val (.int p0), .val (.int p1), .val (.int p2), .val (.int p3), .val (.int p4), .val (.int 3), .val (.int ((((p0).toUInt32 >>> ((3 : Int32) &&& 31).toUInt32).toInt32) &&& (3 : Int32))), .val (.int (((((p0).toUInt32 >>> ((5 : Int32) &&& 31).toUInt32).toInt32) &&& (7 : Int32)) % (5 : Int32))), .val (.int 5), .val (.int 2), .val (.int 5), .unset, .unset, .unset, .unset, .unset, .unset, .unset]) rfl (XS.goto X0.here hx rfl (pc0 := 109) (pc' := 181) rfl (hb hby at_109) (by decide) (by decide) k)))))) ?_
    exact own_main (p0) (p1) (p2) (p3) (p4) ((3 : Int32)) (((((p0).toUInt32 >>> ((3 : Int32) &&& 31).toUInt32).toInt32) &&& (3 : Int32))) ((((((p0).toUInt32 >>> ((5 : Int32) &&& 31).toUInt32).toInt32) &&& (7 : Int32)) % (5 : Int32))) ((5 : Int32)) ((2 : Int32)) ((5 : Int32)) hx hw hby hml hret hlk hZ hown X0 e0 N0 Z0 own_ok3 (own_off _) (own_n _)
  · rw [hk5]
    refine Wp.back (U' := (s₁.setTop (mkF m 114 #[.val (.int p0), .val (.int p1), .val (.int p2), .val (.int p3), .val (.int p4), .val (.int 4), .val (.int ((((p0).toUInt32 >>> ((3 : Int32) &&& 31).toUInt32).toInt32) &&& (3 : Int32))), .val (.int (((((p0).toUInt32 >>> ((5 : Int32) &&& 31).toUInt32).toInt32) &&& (7 : Int32)) % (5 : Int32))), .unset, .unset, .unset, .unset, .unset, .unset, .unset, .unset, .unset, .unset] [(.int 4)]))) (fun t k => XS.iload X0.here hx rfl (hb hby at_23) rfl (XS.ifYes X0.here hx rfl (pc0 := 25) (pc' := 55) rfl (hb hby at_25) rfl ((if0 _ _).trans (feq (by decide)).2) (by decide) (by decide) (XS.iload X0.here hx rfl (hb hby at_55) rfl (XT.iconstV X0.here hx rfl 1 (hb hby at_57) (by decide) (XS.icmpYes X0.here hx rfl (pc0 := 58) (pc' := 74) rfl (hb hby at_58) rfl (feq (by decide)).2 (by decide) (by decide) (XS.iload X0.here hx rfl (hb hby at_74) rfl (XT.iconstV X0.here hx rfl 2 (hb hby at_76) (by decide) (XS.icmpYes X0.here hx rfl (pc0 := 77) (pc' := 94) rfl (hb hby at_77) rfl (feq (by decide)).2 (by decide) (by decide) (XS.iload X0.here hx rfl (hb hby at_94) rfl (XT.iconstV X0.here hx rfl 3 (hb hby at_96) (by decide) (XS.icmpYes X0.here hx rfl (pc0 := 97) (pc' := 112) rfl (hb hby at_97) rfl (feq (by decide)).2 (by decide) (by decide) (XS.iload X0.here hx rfl (hb hby at_112) rfl k)))))))))))) ?_
    refine Wp.back (U' := (s₁.setTop (mkF m 181 #[.val (.int p0), .val (.int p1), .val (.int p2), .val (.int p3), .val (.int p4), .val (.int 4), .val (.int ((((p0).toUInt32 >>> ((3 : Int32) &&& 31).toUInt32).toInt32) &&& (3 : Int32))), .val (.int (((((p0).toUInt32 >>> ((5 : Int32) &&& 31).toUInt32).toInt32) &&& (7 : Int32)) % (5 : Int32))), .val (.int 2), .val (.int 3), .val (.int 3), .unset, .unset, .unset, .unset, .unset, .unset, .unset] []))) (fun t k => XT.iconstV X0.here hx rfl 4 (hb hby at_114) (by decide) (XS.icmpNo X0.here hx rfl (hb hby at_115) rfl (teq (by decide)).2 (XT.iconstV X0.here hx rfl 2 (hb hby at_118) (by decide) (XS.istore X0.here hx rfl (hb hby at_119) rfl (l' := #[.val (.int p0), .val (.int p1), .val (.int p2), .val (.int p3), .val (.int p4), .val (.int 4), .val (.int ((((p0).toUInt32 >>> ((3 : Int32) &&& 31).toUInt32).toInt32) &&& (3 : Int32))), .val (.int (((((p0).toUInt32 >>> ((5 : Int32) &&& 31).toUInt32).toInt32) &&& (7 : Int32)) % (5 : Int32))), .val (.int 2), .unset, .unset, .unset, .unset, .unset, .unset, .unset, .unset, .unset]) rfl (XT.iconstV X0.here hx rfl 3 (hb hby at_121) (by decide) (XS.istore X0.here hx rfl (hb hby at_122) rfl (l' := #[.val (.int p0), .val (.int p1), .val (.int p2), .val (.int p3), .val (.int p4), .val (.int 4), .val (.int ((((p0).toUInt32 >>> ((3 : Int32) &&& 31).toUInt32).toInt32) &&& (3 : Int32))), .val (.int (((((p0).toUInt32 >>> ((5 : Int32) &&& 31).toUInt32).toInt32) &&& (7 : Int32)) % (5 : Int32))), .val (.int 2), .val (.int 3), .unset, .unset, .unset, .unset, .unset, .unset, .unset, .unset]) rfl (XT.iconstV X0.here hx rfl 3 (hb hby at_124) (by decide) (XS.istore X0.here hx rfl (hb hby at_125) rfl (l' := #[.val (.int p0), .val (.int p1), .val (.int p2), .val (.int p3), .val (.int p4), .val (.int 4), .val (.int ((((p0).toUInt32 >>> ((3 : Int32) &&& 31).toUInt32).toInt32) &&& (3 : Int32))), .val (.int (((((p0).toUInt32 >>> ((5 : Int32) &&& 31).toUInt32).toInt32) &&& (7 : Int32)) % (5 : Int32))), .val (.int 2), .val (.int 3), .val (.int 3), .unset, .unset, .unset, .unset, .unset, .unset, .unset]) rfl (XS.goto X0.here hx rfl (pc0 := 127) (pc' := 181) rfl (hb hby at_127) (by decide) (by decide) k))))))))) ?_
    exact own_main (p0) (p1) (p2) (p3) (p4) ((4 : Int32)) (((((p0).toUInt32 >>> ((3 : Int32) &&& 31).toUInt32).toInt32) &&& (3 : Int32))) ((((((p0).toUInt32 >>> ((5 : Int32) &&& 31).toUInt32).toInt32) &&& (7 : Int32)) % (5 : Int32))) ((2 : Int32)) ((3 : Int32)) ((3 : Int32)) hx hw hby hml hret hlk hZ hown X0 e0 N0 Z0 own_ok4 (own_off _) (own_n _)
  · rw [hk6]
    refine Wp.back (U' := (s₁.setTop (mkF m 114 #[.val (.int p0), .val (.int p1), .val (.int p2), .val (.int p3), .val (.int p4), .val (.int 5), .val (.int ((((p0).toUInt32 >>> ((3 : Int32) &&& 31).toUInt32).toInt32) &&& (3 : Int32))), .val (.int (((((p0).toUInt32 >>> ((5 : Int32) &&& 31).toUInt32).toInt32) &&& (7 : Int32)) % (5 : Int32))), .unset, .unset, .unset, .unset, .unset, .unset, .unset, .unset, .unset, .unset] [(.int 5)]))) (fun t k => XS.iload X0.here hx rfl (hb hby at_23) rfl (XS.ifYes X0.here hx rfl (pc0 := 25) (pc' := 55) rfl (hb hby at_25) rfl ((if0 _ _).trans (feq (by decide)).2) (by decide) (by decide) (XS.iload X0.here hx rfl (hb hby at_55) rfl (XT.iconstV X0.here hx rfl 1 (hb hby at_57) (by decide) (XS.icmpYes X0.here hx rfl (pc0 := 58) (pc' := 74) rfl (hb hby at_58) rfl (feq (by decide)).2 (by decide) (by decide) (XS.iload X0.here hx rfl (hb hby at_74) rfl (XT.iconstV X0.here hx rfl 2 (hb hby at_76) (by decide) (XS.icmpYes X0.here hx rfl (pc0 := 77) (pc' := 94) rfl (hb hby at_77) rfl (feq (by decide)).2 (by decide) (by decide) (XS.iload X0.here hx rfl (hb hby at_94) rfl (XT.iconstV X0.here hx rfl 3 (hb hby at_96) (by decide) (XS.icmpYes X0.here hx rfl (pc0 := 97) (pc' := 112) rfl (hb hby at_97) rfl (feq (by decide)).2 (by decide) (by decide) (XS.iload X0.here hx rfl (hb hby at_112) rfl k)))))))))))) ?_
    refine Wp.back (U' := (s₁.setTop (mkF m 181 #[.val (.int p0), .val (.int p1), .val (.int p2), .val (.int p3), .val (.int p4), .val (.int 5), .val (.int ((((p0).toUInt32 >>> ((3 : Int32) &&& 31).toUInt32).toInt32) &&& (3 : Int32))), .val (.int (((((p0).toUInt32 >>> ((5 : Int32) &&& 31).toUInt32).toInt32) &&& (7 : Int32)) % (5 : Int32))), .val (.int 6), .val (.int 2), .val (.int 6), .unset, .unset, .unset, .unset, .unset, .unset, .unset] []))) (fun t k => XT.iconstV X0.here hx rfl 4 (hb hby at_114) (by decide) (XS.icmpYes X0.here hx rfl (pc0 := 115) (pc' := 130) rfl (hb hby at_115) rfl (feq (by decide)).2 (by decide) (by decide) (XS.iload X0.here hx rfl (hb hby at_130) rfl (XT.iconstV X0.here hx rfl 5 (hb hby at_132) (by decide) (XS.icmpNo X0.here hx rfl (hb hby at_133) rfl (teq (by decide)).2 (XT.bipushV X0.here hx rfl 6 (hb hby at_136) (by decide) (XS.istore X0.here hx rfl (hb hby at_138) rfl (l' := #[.val (.int p0), .val (.int p1), .val (.int p2), .val (.int p3), .val (.int p4), .val (.int 5), .val (.int ((((p0).toUInt32 >>> ((3 : Int32) &&& 31).toUInt32).toInt32) &&& (3 : Int32))), .val (.int (((((p0).toUInt32 >>> ((5 : Int32) &&& 31).toUInt32).toInt32) &&& (7 : Int32)) % (5 : Int32))), .val (.int 6), .unset, .unset, .unset, .unset, .unset, .unset, .unset, .unset, .unset]) rfl (XT.iconstV X0.here hx rfl 2 (hb hby at_140) (by decide) (XS.istore X0.here hx rfl (hb hby at_141) rfl (l' := #[.val (.int p0), .val (.int p1), .val (.int p2), .val (.int p3), .val (.int p4), .val (.int 5), .val (.int ((((p0).toUInt32 >>> ((3 : Int32) &&& 31).toUInt32).toInt32) &&& (3 : Int32))), .val (.int (((((p0).toUInt32 >>> ((5 : Int32) &&& 31).toUInt32).toInt32) &&& (7 : Int32)) % (5 : Int32))), .val (.int 6), .val (.int 2), .unset, .unset, .unset, .unset, .unset, .unset, .unset, .unset]) rfl (XT.bipushV X0.here hx rfl 6 (hb hby at_143) (by decide) (XS.istore X0.here hx rfl (hb hby at_145) rfl (l' := #[.val (.int p0), .val (.int p1), .val (.int p2), .val (.int p3), .val (.int p4), .val (.int 5), .val (.int ((((p0).toUInt32 >>> ((3 : Int32) &&& 31).toUInt32).toInt32) &&& (3 : Int32))), .val (.int (((((p0).toUInt32 >>> ((5 : Int32) &&& 31).toUInt32).toInt32) &&& (7 : Int32)) % (5 : Int32))), .val (.int 6), .val (.int 2), .val (.int 6), .unset, .unset, .unset, .unset, .unset, .unset, .unset]) rfl (XS.goto X0.here hx rfl (pc0 := 147) (pc' := 181) rfl (hb hby at_147) (by decide) (by decide) k)))))))))))) ?_
    exact own_main (p0) (p1) (p2) (p3) (p4) ((5 : Int32)) (((((p0).toUInt32 >>> ((3 : Int32) &&& 31).toUInt32).toInt32) &&& (3 : Int32))) ((((((p0).toUInt32 >>> ((5 : Int32) &&& 31).toUInt32).toInt32) &&& (7 : Int32)) % (5 : Int32))) ((6 : Int32)) ((2 : Int32)) ((6 : Int32)) hx hw hby hml hret hlk hZ hown X0 e0 N0 Z0 own_ok5 (own_off _) (own_n _)
  · rw [hk7]
    refine Wp.back (U' := (s₁.setTop (mkF m 114 #[.val (.int p0), .val (.int p1), .val (.int p2), .val (.int p3), .val (.int p4), .val (.int 6), .val (.int ((((p0).toUInt32 >>> ((3 : Int32) &&& 31).toUInt32).toInt32) &&& (3 : Int32))), .val (.int (((((p0).toUInt32 >>> ((5 : Int32) &&& 31).toUInt32).toInt32) &&& (7 : Int32)) % (5 : Int32))), .unset, .unset, .unset, .unset, .unset, .unset, .unset, .unset, .unset, .unset] [(.int 6)]))) (fun t k => XS.iload X0.here hx rfl (hb hby at_23) rfl (XS.ifYes X0.here hx rfl (pc0 := 25) (pc' := 55) rfl (hb hby at_25) rfl ((if0 _ _).trans (feq (by decide)).2) (by decide) (by decide) (XS.iload X0.here hx rfl (hb hby at_55) rfl (XT.iconstV X0.here hx rfl 1 (hb hby at_57) (by decide) (XS.icmpYes X0.here hx rfl (pc0 := 58) (pc' := 74) rfl (hb hby at_58) rfl (feq (by decide)).2 (by decide) (by decide) (XS.iload X0.here hx rfl (hb hby at_74) rfl (XT.iconstV X0.here hx rfl 2 (hb hby at_76) (by decide) (XS.icmpYes X0.here hx rfl (pc0 := 77) (pc' := 94) rfl (hb hby at_77) rfl (feq (by decide)).2 (by decide) (by decide) (XS.iload X0.here hx rfl (hb hby at_94) rfl (XT.iconstV X0.here hx rfl 3 (hb hby at_96) (by decide) (XS.icmpYes X0.here hx rfl (pc0 := 97) (pc' := 112) rfl (hb hby at_97) rfl (feq (by decide)).2 (by decide) (by decide) (XS.iload X0.here hx rfl (hb hby at_112) rfl k)))))))))))) ?_
    refine Wp.back (U' := (s₁.setTop (mkF m 163 #[.val (.int p0), .val (.int p1), .val (.int p2), .val (.int p3), .val (.int p4), .val (.int 6), .val (.int ((((p0).toUInt32 >>> ((3 : Int32) &&& 31).toUInt32).toInt32) &&& (3 : Int32))), .val (.int (((((p0).toUInt32 >>> ((5 : Int32) &&& 31).toUInt32).toInt32) &&& (7 : Int32)) % (5 : Int32))), .val (.int 3), .val (.int 2), .unset, .unset, .unset, .unset, .unset, .unset, .unset, .unset] []))) (fun t k => XT.iconstV X0.here hx rfl 4 (hb hby at_114) (by decide) (XS.icmpYes X0.here hx rfl (pc0 := 115) (pc' := 130) rfl (hb hby at_115) rfl (feq (by decide)).2 (by decide) (by decide) (XS.iload X0.here hx rfl (hb hby at_130) rfl (XT.iconstV X0.here hx rfl 5 (hb hby at_132) (by decide) (XS.icmpYes X0.here hx rfl (pc0 := 133) (pc' := 150) rfl (hb hby at_133) rfl (feq (by decide)).2 (by decide) (by decide) (XS.iload X0.here hx rfl (hb hby at_150) rfl (XT.bipushV X0.here hx rfl 6 (hb hby at_152) (by decide) (XS.icmpNo X0.here hx rfl (hb hby at_154) rfl (teq (by decide)).2 (XT.iconstV X0.here hx rfl 3 (hb hby at_157) (by decide) (XS.istore X0.here hx rfl (hb hby at_158) rfl (l' := #[.val (.int p0), .val (.int p1), .val (.int p2), .val (.int p3), .val (.int p4), .val (.int 6), .val (.int ((((p0).toUInt32 >>> ((3 : Int32) &&& 31).toUInt32).toInt32) &&& (3 : Int32))), .val (.int (((((p0).toUInt32 >>> ((5 : Int32) &&& 31).toUInt32).toInt32) &&& (7 : Int32)) % (5 : Int32))), .val (.int 3), .unset, .unset, .unset, .unset, .unset, .unset, .unset, .unset, .unset]) rfl (XT.iconstV X0.here hx rfl 2 (hb hby at_160) (by decide) (XS.istore X0.here hx rfl (hb hby at_161) rfl (l' := #[.val (.int p0), .val (.int p1), .val (.int p2), .val (.int p3), .val (.int p4), .val (.int 6), .val (.int ((((p0).toUInt32 >>> ((3 : Int32) &&& 31).toUInt32).toInt32) &&& (3 : Int32))), .val (.int (((((p0).toUInt32 >>> ((5 : Int32) &&& 31).toUInt32).toInt32) &&& (7 : Int32)) % (5 : Int32))), .val (.int 3), .val (.int 2), .unset, .unset, .unset, .unset, .unset, .unset, .unset, .unset]) rfl k)))))))))))) ?_
    refine Wp.back (U' := (s₁.setTop (mkF m 181 #[.val (.int p0), .val (.int p1), .val (.int p2), .val (.int p3), .val (.int p4), .val (.int 6), .val (.int ((((p0).toUInt32 >>> ((3 : Int32) &&& 31).toUInt32).toInt32) &&& (3 : Int32))), .val (.int (((((p0).toUInt32 >>> ((5 : Int32) &&& 31).toUInt32).toInt32) &&& (7 : Int32)) % (5 : Int32))), .val (.int 3), .val (.int 2), .val (.int 4), .unset, .unset, .unset, .unset, .unset, .unset, .unset] []))) (fun t k => XT.iconstV X0.here hx rfl 4 (hb hby at_163) (by decide) (XS.istore X0.here hx rfl (hb hby at_164) rfl (l' := #[.val (.int p0), .val (.int p1), .val (.int p2), .val (.int p3), .val (.int p4), .val (.int 6), .val (.int ((((p0).toUInt32 >>> ((3 : Int32) &&& 31).toUInt32).toInt32) &&& (3 : Int32))), .val (.int (((((p0).toUInt32 >>> ((5 : Int32) &&& 31).toUInt32).toInt32) &&& (7 : Int32)) % (5 : Int32))), .val (.int 3), .val (.int 2), .val (.int 4), .unset, .unset, .unset, .unset, .unset, .unset, .unset]) rfl (XS.goto X0.here hx rfl (pc0 := 166) (pc' := 181) rfl (hb hby at_166) (by decide) (by decide) k))) ?_
    exact own_main (p0) (p1) (p2) (p3) (p4) ((6 : Int32)) (((((p0).toUInt32 >>> ((3 : Int32) &&& 31).toUInt32).toInt32) &&& (3 : Int32))) ((((((p0).toUInt32 >>> ((5 : Int32) &&& 31).toUInt32).toInt32) &&& (7 : Int32)) % (5 : Int32))) ((3 : Int32)) ((2 : Int32)) ((4 : Int32)) hx hw hby hml hret hlk hZ hown X0 e0 N0 Z0 own_ok6 (own_off _) (own_n _)
  · rw [hk8]
    refine Wp.back (U' := (s₁.setTop (mkF m 114 #[.val (.int p0), .val (.int p1), .val (.int p2), .val (.int p3), .val (.int p4), .val (.int 7), .val (.int ((((p0).toUInt32 >>> ((3 : Int32) &&& 31).toUInt32).toInt32) &&& (3 : Int32))), .val (.int (((((p0).toUInt32 >>> ((5 : Int32) &&& 31).toUInt32).toInt32) &&& (7 : Int32)) % (5 : Int32))), .unset, .unset, .unset, .unset, .unset, .unset, .unset, .unset, .unset, .unset] [(.int 7)]))) (fun t k => XS.iload X0.here hx rfl (hb hby at_23) rfl (XS.ifYes X0.here hx rfl (pc0 := 25) (pc' := 55) rfl (hb hby at_25) rfl ((if0 _ _).trans (feq (by decide)).2) (by decide) (by decide) (XS.iload X0.here hx rfl (hb hby at_55) rfl (XT.iconstV X0.here hx rfl 1 (hb hby at_57) (by decide) (XS.icmpYes X0.here hx rfl (pc0 := 58) (pc' := 74) rfl (hb hby at_58) rfl (feq (by decide)).2 (by decide) (by decide) (XS.iload X0.here hx rfl (hb hby at_74) rfl (XT.iconstV X0.here hx rfl 2 (hb hby at_76) (by decide) (XS.icmpYes X0.here hx rfl (pc0 := 77) (pc' := 94) rfl (hb hby at_77) rfl (feq (by decide)).2 (by decide) (by decide) (XS.iload X0.here hx rfl (hb hby at_94) rfl (XT.iconstV X0.here hx rfl 3 (hb hby at_96) (by decide) (XS.icmpYes X0.here hx rfl (pc0 := 97) (pc' := 112) rfl (hb hby at_97) rfl (feq (by decide)).2 (by decide) (by decide) (XS.iload X0.here hx rfl (hb hby at_112) rfl k)))))))))))) ?_
    refine Wp.back (U' := (s₁.setTop (mkF m 177 #[.val (.int p0), .val (.int p1), .val (.int p2), .val (.int p3), .val (.int p4), .val (.int 7), .val (.int ((((p0).toUInt32 >>> ((3 : Int32) &&& 31).toUInt32).toInt32) &&& (3 : Int32))), .val (.int (((((p0).toUInt32 >>> ((5 : Int32) &&& 31).toUInt32).toInt32) &&& (7 : Int32)) % (5 : Int32))), .val (.int 1000), .val (.int 2), .unset, .unset, .unset, .unset, .unset, .unset, .unset, .unset] []))) (fun t k => XT.iconstV X0.here hx rfl 4 (hb hby at_114) (by decide) (XS.icmpYes X0.here hx rfl (pc0 := 115) (pc' := 130) rfl (hb hby at_115) rfl (feq (by decide)).2 (by decide) (by decide) (XS.iload X0.here hx rfl (hb hby at_130) rfl (XT.iconstV X0.here hx rfl 5 (hb hby at_132) (by decide) (XS.icmpYes X0.here hx rfl (pc0 := 133) (pc' := 150) rfl (hb hby at_133) rfl (feq (by decide)).2 (by decide) (by decide) (XS.iload X0.here hx rfl (hb hby at_150) rfl (XT.bipushV X0.here hx rfl 6 (hb hby at_152) (by decide) (XS.icmpYes X0.here hx rfl (pc0 := 154) (pc' := 169) rfl (hb hby at_154) rfl (feq (by decide)).2 (by decide) (by decide) (XT.sipushV X0.here hx rfl 1000 (hb hby at_169) (by decide) (XS.istore X0.here hx rfl (hb hby at_172) rfl (l' := #[.val (.int p0), .val (.int p1), .val (.int p2), .val (.int p3), .val (.int p4), .val (.int 7), .val (.int ((((p0).toUInt32 >>> ((3 : Int32) &&& 31).toUInt32).toInt32) &&& (3 : Int32))), .val (.int (((((p0).toUInt32 >>> ((5 : Int32) &&& 31).toUInt32).toInt32) &&& (7 : Int32)) % (5 : Int32))), .val (.int 1000), .unset, .unset, .unset, .unset, .unset, .unset, .unset, .unset, .unset]) rfl (XT.iconstV X0.here hx rfl 2 (hb hby at_174) (by decide) (XS.istore X0.here hx rfl (hb hby at_175) rfl (l' := #[.val (.int p0), .val (.int p1), .val (.int p2), .val (.int p3), .val (.int p4), .val (.int 7), .val (.int ((((p0).toUInt32 >>> ((3 : Int32) &&& 31).toUInt32).toInt32) &&& (3 : Int32))), .val (.int (((((p0).toUInt32 >>> ((5 : Int32) &&& 31).toUInt32).toInt32) &&& (7 : Int32)) % (5 : Int32))), .val (.int 1000), .val (.int 2), .unset, .unset, .unset, .unset, .unset, .unset, .unset, .unset]) rfl k)))))))))))) ?_
    refine Wp.back (U' := (s₁.setTop (mkF m 181 #[.val (.int p0), .val (.int p1), .val (.int p2), .val (.int p3), .val (.int p4), .val (.int 7), .val (.int ((((p0).toUInt32 >>> ((3 : Int32) &&& 31).toUInt32).toInt32) &&& (3 : Int32))), .val (.int (((((p0).toUInt32 >>> ((5 : Int32) &&& 31).toUInt32).toInt32) &&& (7 : Int32)) % (5 : Int32))), .val (.int 1000), .val (.int 2), .val (.int 20), .unset, .unset, .unset, .unset, .unset, .unset, .unset] []))) (fun t k => XT.bipushV X0.here hx rfl 20 (hb hby at_177) (by decide) (XS.istore X0.here hx rfl (hb hby at_179) rfl (l' := #[.val (.int p0), .val (.int p1), .val (.int p2), .val (.int p3), .val (.int p4), .val (.int 7), .val (.int ((((p0).toUInt32 >>> ((3 : Int32) &&& 31).toUInt32).toInt32) &&& (3 : Int32))), .val (.int (((((p0).toUInt32 >>> ((5 : Int32) &&& 31).toUInt32).toInt32) &&& (7 : Int32)) % (5 : Int32))), .val (.int 1000), .val (.int 2), .val (.int 20), .unset, .unset, .unset, .unset, .unset, .unset, .unset]) rfl k)) ?_
    exact own_main (p0) (p1) (p2) (p3) (p4) ((7 : Int32)) (((((p0).toUInt32 >>> ((3 : Int32) &&& 31).toUInt32).toInt32) &&& (3 : Int32))) ((((((p0).toUInt32 >>> ((5 : Int32) &&& 31).toUInt32).toInt32) &&& (7 : Int32)) % (5 : Int32))) ((1000 : Int32)) ((2 : Int32)) ((20 : Int32)) hx hw hby hml hret hlk hZ hown X0 e0 N0 Z0 own_ok7 (own_off _) (own_n _)
set_option maxRecDepth 65536 in
set_option maxHeartbeats 40000000 in
theorem comes_1 {Post : Tables → Env → Array Value → State → Outcome → State → Prop} (hpost : ∀ tb e args s v u, (limb_1_1.after args s (.returned v) u = true ∧ limb_1_2.after args s (.returned v) u = true ∧ True) → FrameEnd s (.returned v) u (Jvm.fieldLocs frame_1_writes args s ++ Jvm.arrayLocs frame_1_arrays args s ++ Jvm.staticLocs frame_1_statics s) 24 128 → Post tb e args s (.returned v) u) :
    ArmFor flags0 classFile x code maxLocals ret World_1 tables_1 room_1 Calls_1 rest_1 Pre_1 Post := by
  intro l hfl _ _ p e ha hc hk s m args below hf hA hF happ hP
  obtain ⟨hcalls, hrest, hpre⟩ := hP
  obtain ⟨-, -, -, hnamed, -, -, -, hat⟩ := (Spec.applies_iff hf).mp happ
  obtain ⟨hg, hn⟩ := and_e (Cond.before_iff.mp (show (Jvm.Cond.and given_1 narrow_1).before args s = true from hpre))
  obtain ⟨hg1, hg2⟩ := and_e hg
  obtain ⟨hg21, hg22⟩ := and_e hg2
  obtain ⟨hg221, hg222⟩ := and_e hg22
  obtain ⟨hg2221, hg2222⟩ := and_e hg222
  obtain ⟨hg22221, hg22222⟩ := and_e hg2222
  obtain ⟨w0, w1, w2, w3, w4, rfl⟩ : ∃ w0 w1 w2 w3 w4 : Value, args = #[w0, w1, w2, w3, w4] := by
    have hs : args.size = 5 := by simpa [Cond.value, given_1] using hg1
    obtain ⟨L⟩ := args
    match L, hs with
    | [w0, w1, w2, w3, w4], _ => exact ⟨w0, w1, w2, w3, w4, rfl⟩
  have hw := fun d (hd : d ∈ tables_1) => atoms_spec (ws := Jvm.Cond.code x code maxLocals ret :: tables_1) hat d (List.mem_cons_of_mem _ hd)
  have hfit : Fit s := fun {y c} hc i hi => by
    obtain ⟨ha, rfl⟩ := Array.getElem?_eq_some_iff.mp hc
    have q := List.all_eq_true.mp ((Array.all_eq_true_iff_forall_mem.mp hF) _ (Array.getElem_mem ha)) i (List.mem_range.mpr hi)
    simpa [Array.getElem?_eq_getElem hi] using q
  obtain ⟨i0, ei0⟩ := is_v hg21
  obtain rfl : w0 = (.int i0) := Option.some.inj ei0
  obtain ⟨i1, ei1⟩ := is_v hg221
  obtain rfl : w1 = (.int i1) := Option.some.inj ei1
  obtain ⟨i2, ei2⟩ := is_v hg2221
  obtain rfl : w2 = (.int i2) := Option.some.inj ei2
  obtain ⟨i3, ei3⟩ := is_v hg22221
  obtain rfl : w3 = (.int i3) := Option.some.inj ei3
  obtain ⟨i4, ei4⟩ := is_v hg22222
  obtain rfl : w4 = (.int i4) := Option.some.inj ei4
  obtain ⟨n, o, h1, h2, h3, _, L, rfl, ⟨rfl, N⟩, hq⟩ := rm_law l s _ hw tables_1 i0 i1 i2 i3 i4 s.heap s.heap.size (Nat.le_refl _)  p e ha hc hk s m _ below hf ((Spec.applies_iff_loose hf).mp happ).1 ⟨rfl, State.Warmed39.refl s, rfl⟩ trivial
  refine ⟨n, _, h1, h2, h3, hpost _ _ _ _ _ _ ⟨Cond.after_iff.mpr rfl, Cond.after_iff.mpr (eq_i res_at (Term.int_eval (1)) rfl), trivial⟩ ⟨hq.1, hq.2.1, (hq.2.2.sift fun y hy => Or.inr (N y hy)).mono (by decide) (by decide)⟩⟩
theorem main_1_1 : Claimed_1_1 := comes_1 fun _ _ _ _ _ _ h hF => ⟨h.1, hF⟩
theorem main_1_2 : Claimed_1_2 := comes_1 fun _ _ _ _ _ _ h hF => ⟨h.2.1, hF⟩
end Jvm.Pilot.@@N@@
namespace Jvm.Pilot.@@N@@
open Jvm Jvm.ClassFile Sem Op Lib Jvm.Free Jvm.Stand Jvm.Pilot.@@N@@.Jvm.D
/-! MADE BY PROGRAM (witnessworld.py) out of the Statement's table words and the real class files: 18 classes; the members and pool entries that the words name. The judged class is class 1, her method 1. -/
namespace start1
open Jvm.ClassFile
def u (s : String) : CpInfo := .utf8 (stringToUtf16 s)
/-- a pool by its gaps: so many unusable entries, then the entry; so many at the end -/
def gap : Nat → List CpInfo → List CpInfo
  | 0, r => r
  | n + 1, r => .unusable :: gap n r
def poolList (es : List (Nat × CpInfo)) (last : Nat) : List CpInfo := es.foldr (fun e r => gap e.1 (e.2 :: r)) (gap last [])
def pool (es : List (Nat × CpInfo)) (last : Nat) : Array CpInfo := ⟨poolList es last⟩
def fileOf (pool : Array CpInfo) (this : Nat) (attrs : Array Attribute := #[]) (ms : Array MethodInfo := #[]) (fl : Nat := 33) (sup : Nat := 0) (ifs : Array Nat := #[]) (fds : Array FieldInfo := #[]) : ClassFile where
  minorVersion := 0
  majorVersion := 65
  constantPool := pool
  accessFlags := fl
  thisClass := this
  superClass := sup
  interfaces := ifs
  fields := fds
  methods := ms
  attributes := attrs
def plain (name : String) (sup : Option ClassId) : Class where
  name := name
  kind := .ordinary
  loader := none
  accessFlags := 33
  super := sup
  interfaces := #[]
  cf := none
  fields := #[]
  methods := #[]
  instanceTypes := #[]
  staticTypes := #[]
  resolved := #[]
  callSites := []
  init := .initialized
  statics := none
  mirror := none

def pool0 : Array CpInfo := pool [(5, u "<init>"), (0, u "()V"), (1, .class_ 10), (1, u "java/lang/Object")] 113

def k0c0 : Code := { maxStack := 0, maxLocals := 1, code := object_method_1_code, exceptionTable := #[], attributes := #[] }
def k0m0 : Method := { name := "<init>", desc := "()V", sig := { parameters := [], returnType := none }, accessFlags := 1, code := some k0c0 }
/-- java/lang/Object -/
def k0 : Class := { plain "java/lang/Object" none with
  accessFlags := 33
  interfaces := #[]
  cf := some (fileOf pool0 8 #[] #[{ accessFlags := 1, nameIndex := 5, descriptorIndex := 6, attributes := #[] }] 33 0 #[] #[])
  fields := #[]
  methods := #[k0m0]
  instanceTypes := #[]
  staticTypes := #[]
  resolved := Array.replicate 124 none
  statics := none }

def pool1 : Array CpInfo := pool [(2, .class_ 4), (1, u "java/lang/Object"), (0, u "<init>"), (0, u "()V"), (0, .methodref 8 9), (0, .class_ 10), (0, .nameAndType 11 12), (0, u "com/example/known_leaks/knownleaks/CellPackingWritePinLaw"), (0, u "bitLength"), (0, u "(I)I"), (0, .class_ 14), (0, u "com/example/known_leaks/knownleaks/CellPacking"), (0, .methodref 13 16), (0, .nameAndType 5 17), (0, u "(II)V"), (0, .integer 2147483647), (0, .methodref 13 20), (0, .nameAndType 21 22), (0, u "write"), (0, u "([I[BI)V"), (0, .methodref 8 24), (0, .nameAndType 25 26), (0, u "block"), (0, u "([III[J)J"), (0, .methodref 8 28), (0, .nameAndType 29 30), (0, u "place"), (0, u "(JIII)J"), (0, .methodref 8 32), (0, .nameAndType 33 34), (0, u "byteOk"), (0, u "([BIJ)Z"), (0, .methodref 8 36), (0, .nameAndType 37 38), (0, u "cellAt"), (0, u "([II)J"), (0, .long 255), (3, u "law"), (0, u "(IIIII)Z")] 9

def k1m0 : Method := { name := "<init>", desc := "()V", sig := { parameters := [], returnType := none }, accessFlags := 1, code := none }
def k1c1 : Code := { maxStack := 7, maxLocals := 18, code := code, exceptionTable := #[], attributes := #[] }
def k1m1 : Method := { name := "law", desc := "(IIIII)Z", sig := { parameters := [.int, .int, .int, .int, .int], returnType := some .boolean }, accessFlags := 9, code := some k1c1 }
def k1c2 : Code := { maxStack := 2, maxLocals := 1, code := method_3_code, exceptionTable := #[], attributes := #[] }
def k1m2 : Method := { name := "bitLength", desc := "(I)I", sig := { parameters := [.int], returnType := some .int }, accessFlags := 10, code := some k1c2 }
def k1c3 : Code := { maxStack := 2, maxLocals := 2, code := method_4_code, exceptionTable := #[], attributes := #[] }
def k1m3 : Method := { name := "cellAt", desc := "([II)J", sig := { parameters := [(.array .int), .int], returnType := some .long }, accessFlags := 10, code := some k1c3 }
def k1c4 : Code := { maxStack := 6, maxLocals := 7, code := method_5_code, exceptionTable := #[], attributes := #[] }
def k1m4 : Method := { name := "block", desc := "([III[J)J", sig := { parameters := [(.array .int), .int, .int, (.array .long)], returnType := some .long }, accessFlags := 10, code := some k1c4 }
def k1c5 : Code := { maxStack := 5, maxLocals := 5, code := method_6_code, exceptionTable := #[], attributes := #[] }
def k1m5 : Method := { name := "place", desc := "(JIII)J", sig := { parameters := [.long, .int, .int, .int], returnType := some .long }, accessFlags := 10, code := some k1c5 }
def k1c6 : Code := { maxStack := 6, maxLocals := 4, code := method_7_code, exceptionTable := #[], attributes := #[] }
def k1m6 : Method := { name := "byteOk", desc := "([BIJ)Z", sig := { parameters := [(.array .byte), .int, .long], returnType := some .boolean }, accessFlags := 10, code := some k1c6 }
/-- com/example/known_leaks/knownleaks/CellPackingWritePinLaw -/
def k1 : Class := { plain "com/example/known_leaks/knownleaks/CellPackingWritePinLaw" (some 0) with
  accessFlags := 49
  interfaces := #[]
  cf := some (fileOf pool1 8 #[] #[{ accessFlags := 1, nameIndex := 5, descriptorIndex := 6, attributes := #[] }, { accessFlags := 9, nameIndex := 43, descriptorIndex := 44, attributes := #[] }, { accessFlags := 10, nameIndex := 11, descriptorIndex := 12, attributes := #[] }, { accessFlags := 10, nameIndex := 37, descriptorIndex := 38, attributes := #[] }, { accessFlags := 10, nameIndex := 25, descriptorIndex := 26, attributes := #[] }, { accessFlags := 10, nameIndex := 29, descriptorIndex := 30, attributes := #[] }, { accessFlags := 10, nameIndex := 33, descriptorIndex := 34, attributes := #[] }] 49 2 #[] #[])
  fields := #[]
  methods := #[k1m0, k1m1, k1m2, k1m3, k1m4, k1m5, k1m6]
  instanceTypes := #[]
  staticTypes := #[]
  resolved := Array.replicate 54 none
  statics := none }

def pool2 : Array CpInfo := pool [(1, .methodref 2 3), (0, .class_ 4), (0, .nameAndType 5 6), (0, u "java/lang/Object"), (0, u "<init>"), (0, u "()V"), (9, .class_ 17), (0, u "com/example/known_leaks/knownleaks/CellPacking"), (4, .fieldref 16 23), (0, .nameAndType 24 25), (0, u "powers"), (0, u "[J"), (0, .long 144115188075855872), (1, .fieldref 16 29), (0, .nameAndType 30 31), (0, u "modulus"), (0, u "I"), (0, .fieldref 16 33), (0, .nameAndType 34 31), (0, u "cellsPerBlock"), (0, .methodref 36 37), (0, .class_ 38), (0, .nameAndType 39 40), (0, u "java/lang/Long"), (0, u "numberOfLeadingZeros"), (0, u "(J)I"), (0, .fieldref 16 42), (0, .nameAndType 43 31), (0, u "blockBits"), (3, u "(II)V"), (0, .long 7), (1, .long 8), (1, .methodref 53 54), (0, .class_ 55), (0, .nameAndType 56 57), (0, u "java/lang/Math"), (0, u "min"), (0, u "(II)I"), (8, u "MAX_BLOCK_BITS"), (10, u "write"), (0, u "([I[BI)V")] 25

def k2c0 : Code := { maxStack := 6, maxLocals := 6, code := prog_4_method_1_code, exceptionTable := #[], attributes := #[] }
def k2m0 : Method := { name := "<init>", desc := "(II)V", sig := { parameters := [.int, .int], returnType := none }, accessFlags := 0, code := some k2c0 }
def k2c1 : Code := { maxStack := 8, maxLocals := 15, code := prog_4_method_7_code, exceptionTable := #[], attributes := #[] }
def k2m1 : Method := { name := "write", desc := "([I[BI)V", sig := { parameters := [(.array .int), (.array .byte), .int], returnType := none }, accessFlags := 0, code := some k2c1 }
/-- com/example/known_leaks/knownleaks/CellPacking -/
def k2 : Class := { plain "com/example/known_leaks/knownleaks/CellPacking" (some 0) with
  accessFlags := 32
  interfaces := #[]
  cf := some (fileOf pool2 16 #[] #[{ accessFlags := 0, nameIndex := 5, descriptorIndex := 47, attributes := #[] }, { accessFlags := 0, nameIndex := 77, descriptorIndex := 78, attributes := #[] }] 32 2 #[] #[{ accessFlags := 24, nameIndex := 66, descriptorIndex := 31, attributes := #[] }, { accessFlags := 18, nameIndex := 30, descriptorIndex := 31, attributes := #[] }, { accessFlags := 18, nameIndex := 34, descriptorIndex := 31, attributes := #[] }, { accessFlags := 18, nameIndex := 43, descriptorIndex := 31, attributes := #[] }, { accessFlags := 18, nameIndex := 24, descriptorIndex := 25, attributes := #[] }])
  fields := #[{ name := "MAX_BLOCK_BITS", type := .int, accessFlags := 24, slot := 0, constantValue := 0 }, { name := "modulus", type := .int, accessFlags := 18, slot := 0, constantValue := 0 }, { name := "cellsPerBlock", type := .int, accessFlags := 18, slot := 1, constantValue := 0 }, { name := "blockBits", type := .int, accessFlags := 18, slot := 2, constantValue := 0 }, { name := "powers", type := (.array .long), accessFlags := 18, slot := 3, constantValue := 0 }]
  methods := #[k2m0, k2m1]
  instanceTypes := #[.int, .int, .int, (.array .long)]
  staticTypes := #[.int]
  resolved := Array.replicate 104 none
  statics := none }

def pool3 : Array CpInfo := pool [(1, .class_ 2), (0, u "java/io/Serializable"), (0, .class_ 4), (0, u "java/lang/Object")] 2

/-- java/io/Serializable -/
def k3 : Class := { plain "java/io/Serializable" (some 0) with
  accessFlags := 1537
  interfaces := #[]
  cf := some (fileOf pool3 1 #[] #[] 1537 3 #[] #[])
  fields := #[]
  methods := #[]
  instanceTypes := #[]
  staticTypes := #[]
  resolved := Array.replicate 7 none
  statics := none }

def pool4 : Array CpInfo := pool [(2, .class_ 4), (1, u "java/lang/Object"), (0, u "<init>"), (0, u "()V"), (1, .class_ 10), (1, u "java/lang/Number"), (2, .class_ 14), (0, u "java/io/Serializable"), (0, u "serialVersionUID"), (0, u "J")] 20

def k4m0 : Method := { name := "<init>", desc := "()V", sig := { parameters := [], returnType := none }, accessFlags := 1, code := none }
/-- java/lang/Number -/
def k4 : Class := { plain "java/lang/Number" (some 0) with
  accessFlags := 1057
  interfaces := #[3]
  cf := some (fileOf pool4 8 #[] #[{ accessFlags := 1, nameIndex := 5, descriptorIndex := 6, attributes := #[] }] 1057 2 #[13] #[{ accessFlags := 26, nameIndex := 15, descriptorIndex := 16, attributes := #[] }])
  fields := #[{ name := "serialVersionUID", type := .long, accessFlags := 26, slot := 0, constantValue := 0 }]
  methods := #[k4m0]
  instanceTypes := #[]
  staticTypes := #[.long]
  resolved := Array.replicate 37 none
  statics := none }

def pool5 : Array CpInfo := pool [(1, .class_ 2), (0, u "java/lang/Comparable"), (0, .class_ 4), (0, u "java/lang/Object")] 7

/-- java/lang/Comparable -/
def k5 : Class := { plain "java/lang/Comparable" (some 0) with
  accessFlags := 1537
  interfaces := #[]
  cf := some (fileOf pool5 1 #[] #[] 1537 3 #[] #[])
  fields := #[]
  methods := #[]
  instanceTypes := #[]
  staticTypes := #[]
  resolved := Array.replicate 12 none
  statics := none }

def pool6 : Array CpInfo := pool [(1, .class_ 2), (0, u "java/lang/constant/Constable"), (0, .class_ 4), (0, u "java/lang/Object")] 6

/-- java/lang/constant/Constable -/
def k6 : Class := { plain "java/lang/constant/Constable" (some 0) with
  accessFlags := 1537
  interfaces := #[]
  cf := some (fileOf pool6 1 #[] #[] 1537 3 #[] #[])
  fields := #[]
  methods := #[]
  instanceTypes := #[]
  staticTypes := #[]
  resolved := Array.replicate 11 none
  statics := none }

def pool7 : Array CpInfo := pool [(1, .class_ 2), (0, u "java/lang/constant/ConstantDesc"), (0, .class_ 4), (0, u "java/lang/Object")] 32

/-- java/lang/constant/ConstantDesc -/
def k7 : Class := { plain "java/lang/constant/ConstantDesc" (some 0) with
  accessFlags := 1537
  interfaces := #[]
  cf := some (fileOf pool7 1 #[] #[] 1537 3 #[] #[])
  fields := #[]
  methods := #[]
  instanceTypes := #[]
  staticTypes := #[]
  resolved := Array.replicate 37 none
  statics := none }

def pool8 : Array CpInfo := pool [(1, .class_ 2), (0, u "java/lang/Long"), (15, .class_ 20), (1, u "java/lang/Integer"), (79, u "numberOfLeadingZeros"), (0, u "(J)I"), (133, .class_ 237), (1, u "java/lang/Long$LongCache"), (33, .class_ 272), (0, u "java/lang/Number"), (2, u "value"), (0, u "J"), (31, .methodref 18 309), (0, .nameAndType 100 310), (0, u "(I)I"), (50, u "TYPE"), (0, u "Ljava/lang/Class;"), (0, .class_ 364), (0, u "java/lang/Comparable"), (0, .class_ 366), (0, u "java/lang/constant/Constable"), (0, .class_ 368), (0, u "java/lang/constant/ConstantDesc"), (0, u "MIN_VALUE"), (1, u "MAX_VALUE"), (4, u "SIZE"), (0, u "I"), (1, u "BYTES"), (1, u "serialVersionUID")] 142

def k8c0 : Code := { maxStack := 3, maxLocals := 3, code := jdk_35_method_48_code, exceptionTable := #[], attributes := #[] }
def k8m0 : Method := { name := "numberOfLeadingZeros", desc := "(J)I", sig := { parameters := [.long], returnType := some .int }, accessFlags := 9, code := some k8c0 }
/-- java/lang/Long -/
def k8 : Class := { plain "java/lang/Long" (some 4) with
  accessFlags := 49
  interfaces := #[5, 6, 7]
  cf := some (fileOf pool8 1 #[.nestMembers #[235]] #[{ accessFlags := 9, nameIndex := 100, descriptorIndex := 101, attributes := #[] }] 49 271 #[363, 365, 367] #[{ accessFlags := 25, nameIndex := 369, descriptorIndex := 276, attributes := #[] }, { accessFlags := 25, nameIndex := 371, descriptorIndex := 276, attributes := #[] }, { accessFlags := 25, nameIndex := 361, descriptorIndex := 362, attributes := #[] }, { accessFlags := 18, nameIndex := 275, descriptorIndex := 276, attributes := #[] }, { accessFlags := 25, nameIndex := 376, descriptorIndex := 377, attributes := #[] }, { accessFlags := 25, nameIndex := 379, descriptorIndex := 377, attributes := #[] }, { accessFlags := 26, nameIndex := 381, descriptorIndex := 276, attributes := #[] }])
  fields := #[{ name := "MIN_VALUE", type := .long, accessFlags := 25, slot := 0, constantValue := 0 }, { name := "MAX_VALUE", type := .long, accessFlags := 25, slot := 1, constantValue := 0 }, { name := "TYPE", type := (.object "java/lang/Class"), accessFlags := 25, slot := 2, constantValue := 0 }, { name := "value", type := .long, accessFlags := 18, slot := 0, constantValue := 0 }, { name := "SIZE", type := .int, accessFlags := 25, slot := 3, constantValue := 0 }, { name := "BYTES", type := .int, accessFlags := 25, slot := 4, constantValue := 0 }, { name := "serialVersionUID", type := .long, accessFlags := 26, slot := 5, constantValue := 0 }]
  methods := #[k8m0]
  instanceTypes := #[.long]
  staticTypes := #[.long, .long, (.object "java/lang/Class"), .int, .int, .long]
  resolved := Array.replicate 524 none
  statics := none }

def pool9 : Array CpInfo := pool [(1, .class_ 2), (0, u "java/lang/Integer"), (16, u "digits"), (0, u "[C"), (32, u "numberOfLeadingZeros"), (0, u "(I)I"), (30, u "DigitOnes"), (0, u "[B"), (2, u "DigitTens"), (99, .class_ 190), (0, u "java/lang/Integer$IntegerCache"), (3, u "I"), (8, .class_ 204), (0, u "java/lang/Number"), (2, u "value"), (56, .integer 65536), (37, u "TYPE"), (0, u "Ljava/lang/Class;"), (0, .class_ 305), (0, u "java/lang/Comparable"), (0, .class_ 307), (0, u "java/lang/constant/Constable"), (0, .class_ 309), (0, u "java/lang/constant/ConstantDesc"), (0, u "MIN_VALUE"), (1, u "MAX_VALUE"), (3, u "SIZE"), (1, u "BYTES"), (1, u "serialVersionUID"), (0, u "J")] 131

def k9c0 : Code := { maxStack := 3, maxLocals := 2, code := jdk_33_method_47_code, exceptionTable := #[], attributes := #[] }
def k9m0 : Method := { name := "numberOfLeadingZeros", desc := "(I)I", sig := { parameters := [.int], returnType := some .int }, accessFlags := 9, code := some k9c0 }
/-- java/lang/Integer -/
def k9 : Class := { plain "java/lang/Integer" (some 4) with
  accessFlags := 49
  interfaces := #[5, 6, 7]
  cf := some (fileOf pool9 1 #[.nestMembers #[189]] #[{ accessFlags := 9, nameIndex := 53, descriptorIndex := 54, attributes := #[] }] 49 203 #[304, 306, 308] #[{ accessFlags := 25, nameIndex := 310, descriptorIndex := 194, attributes := #[] }, { accessFlags := 25, nameIndex := 312, descriptorIndex := 194, attributes := #[] }, { accessFlags := 25, nameIndex := 302, descriptorIndex := 303, attributes := #[] }, { accessFlags := 24, nameIndex := 19, descriptorIndex := 20, attributes := #[] }, { accessFlags := 24, nameIndex := 89, descriptorIndex := 86, attributes := #[] }, { accessFlags := 24, nameIndex := 85, descriptorIndex := 86, attributes := #[] }, { accessFlags := 18, nameIndex := 207, descriptorIndex := 194, attributes := #[] }, { accessFlags := 25, nameIndex := 316, descriptorIndex := 194, attributes := #[] }, { accessFlags := 25, nameIndex := 318, descriptorIndex := 194, attributes := #[] }, { accessFlags := 26, nameIndex := 320, descriptorIndex := 321, attributes := #[] }])
  fields := #[{ name := "MIN_VALUE", type := .int, accessFlags := 25, slot := 0, constantValue := 0 }, { name := "MAX_VALUE", type := .int, accessFlags := 25, slot := 1, constantValue := 0 }, { name := "TYPE", type := (.object "java/lang/Class"), accessFlags := 25, slot := 2, constantValue := 0 }, { name := "digits", type := (.array .char), accessFlags := 24, slot := 3, constantValue := 0 }, { name := "DigitTens", type := (.array .byte), accessFlags := 24, slot := 4, constantValue := 0 }, { name := "DigitOnes", type := (.array .byte), accessFlags := 24, slot := 5, constantValue := 0 }, { name := "value", type := .int, accessFlags := 18, slot := 0, constantValue := 0 }, { name := "SIZE", type := .int, accessFlags := 25, slot := 6, constantValue := 0 }, { name := "BYTES", type := .int, accessFlags := 25, slot := 7, constantValue := 0 }, { name := "serialVersionUID", type := .long, accessFlags := 26, slot := 8, constantValue := 0 }]
  methods := #[k9m0]
  instanceTypes := #[.int]
  staticTypes := #[.int, .int, (.object "java/lang/Class"), (.array .char), (.array .byte), (.array .byte), .int, .int, .long]
  resolved := Array.replicate 453 none
  statics := none }

def pool10 : Array CpInfo := pool [(1, .class_ 2), (0, u "java/lang/Math"), (1, .class_ 6), (1, u "java/lang/Object"), (0, u "<init>"), (0, u "()V"), (89, .class_ 100), (1, u "java/lang/Math$RandomNumberGeneratorHolder"), (71, u "negativeZeroFloatBits"), (0, u "J"), (2, u "negativeZeroDoubleBits"), (24, u "min"), (43, u "$assertionsDisabled"), (0, u "Z"), (88, u "(II)I"), (2, u "twoToTheDoubleScaleDown"), (0, u "D"), (4, u "twoToTheDoubleScaleUp"), (9, u "E"), (3, u "PI"), (2, u "TAU"), (2, u "DEGREES_TO_RADIANS"), (0, u "RADIANS_TO_DEGREES")] 94

def k10m0 : Method := { name := "<init>", desc := "()V", sig := { parameters := [], returnType := none }, accessFlags := 2, code := none }
def k10c1 : Code := { maxStack := 2, maxLocals := 2, code := jdk_29_method_69_code, exceptionTable := #[], attributes := #[] }
def k10m1 : Method := { name := "min", desc := "(II)I", sig := { parameters := [.int, .int], returnType := some .int }, accessFlags := 9, code := some k10c1 }
/-- java/lang/Math -/
def k10 : Class := { plain "java/lang/Math" (some 0) with
  accessFlags := 49
  interfaces := #[]
  cf := some (fileOf pool10 1 #[.nestMembers #[98]] #[{ accessFlags := 2, nameIndex := 7, descriptorIndex := 8, attributes := #[] }, { accessFlags := 9, nameIndex := 201, descriptorIndex := 335, attributes := #[] }] 49 4 #[] #[{ accessFlags := 25, nameIndex := 354, descriptorIndex := 339, attributes := #[] }, { accessFlags := 25, nameIndex := 358, descriptorIndex := 339, attributes := #[] }, { accessFlags := 25, nameIndex := 361, descriptorIndex := 339, attributes := #[] }, { accessFlags := 26, nameIndex := 364, descriptorIndex := 339, attributes := #[] }, { accessFlags := 26, nameIndex := 365, descriptorIndex := 339, attributes := #[] }, { accessFlags := 26, nameIndex := 172, descriptorIndex := 173, attributes := #[] }, { accessFlags := 26, nameIndex := 176, descriptorIndex := 173, attributes := #[] }, { accessFlags := 8, nameIndex := 344, descriptorIndex := 339, attributes := #[] }, { accessFlags := 8, nameIndex := 338, descriptorIndex := 339, attributes := #[] }, { accessFlags := 4120, nameIndex := 245, descriptorIndex := 246, attributes := #[] }])
  fields := #[{ name := "E", type := .double, accessFlags := 25, slot := 0, constantValue := 0 }, { name := "PI", type := .double, accessFlags := 25, slot := 1, constantValue := 0 }, { name := "TAU", type := .double, accessFlags := 25, slot := 2, constantValue := 0 }, { name := "DEGREES_TO_RADIANS", type := .double, accessFlags := 26, slot := 3, constantValue := 0 }, { name := "RADIANS_TO_DEGREES", type := .double, accessFlags := 26, slot := 4, constantValue := 0 }, { name := "negativeZeroFloatBits", type := .long, accessFlags := 26, slot := 5, constantValue := 0 }, { name := "negativeZeroDoubleBits", type := .long, accessFlags := 26, slot := 6, constantValue := 0 }, { name := "twoToTheDoubleScaleUp", type := .double, accessFlags := 8, slot := 7, constantValue := 0 }, { name := "twoToTheDoubleScaleDown", type := .double, accessFlags := 8, slot := 8, constantValue := 0 }, { name := "$assertionsDisabled", type := .boolean, accessFlags := 4120, slot := 9, constantValue := 0 }]
  methods := #[k10m0, k10m1]
  instanceTypes := #[]
  staticTypes := #[.double, .double, .double, .double, .double, .long, .long, .double, .double, .boolean]
  resolved := Array.replicate 460 none
  statics := none }

def pool11 : Array CpInfo := pool [(1, u "java/lang/Cloneable"), (0, .class_ 1), (0, u "java/lang/Object"), (0, .class_ 3)] 3

/-- java/lang/Cloneable -/
def k11 : Class := { plain "java/lang/Cloneable" (some 0) with
  accessFlags := 1537
  interfaces := #[]
  cf := some (fileOf pool11 2 #[] #[] 1537 4 #[] #[])
  fields := #[]
  methods := #[]
  instanceTypes := #[]
  staticTypes := #[]
  resolved := Array.replicate 8 none
  statics := none }

/-- the primitive byte -/
def k12 : Class := { plain "byte" none with kind := .primitive 'B', accessFlags := 0x411 }
/-- [B -/
def k13 : Class := { plain "[B" (some 0) with kind := .array 12 .byte, interfaces := #[11, 3], accessFlags := 1041 }

/-- the primitive int -/
def k14 : Class := { plain "int" none with kind := .primitive 'I', accessFlags := 0x411 }
/-- [I -/
def k15 : Class := { plain "[I" (some 0) with kind := .array 14 .int, interfaces := #[11, 3], accessFlags := 1041 }

/-- the primitive long -/
def k16 : Class := { plain "long" none with kind := .primitive 'J', accessFlags := 0x411 }
/-- [J -/
def k17 : Class := { plain "[J" (some 0) with kind := .array 16 .long, interfaces := #[11, 3], accessFlags := 1041 }

def heap : Heap := #[]
def classes : Array Class := #[k0, k1, k2, k3, k4, k5, k6, k7, k8, k9, k10, k11, k12, k13, k14, k15, k16, k17]
def interned : List (Array UInt16 × Addr) := []
def slotsUsed : Nat := 0
def theMethod : MethodId := ⟨1, 1⟩
def args0 : Array Value := #[.int 5, .int 1, .int 2, .int 3, .int 4]
def aboutOver (below : List Frame) : State where
  vm := { classes := classes, interned := interned.toArray }
  heap := heap
  slotsUsed := slotsUsed
  threads := #[{ frames := .invoking theMethod args0 :: below }]
def below0 : List Frame := [.native { method := ⟨0, 0⟩, args := #[] }]
def about1 : State := aboutOver below0
def p0 : Program := .bare "" "" ""
def e0 : Env := launch0.env 0 0 0
theorem w_frames : about1.frames = Frame.invoking theMethod args0 :: below0 := rfl
set_option maxRecDepth 65536 in
theorem w_args : argsFit about1.vm theMethod args0 = true := by decide +kernel
set_option maxRecDepth 65536 in
theorem w_heap : heapFits about1 = true := by decide +kernel
set_option maxRecDepth 65536 in
theorem w_runnable : about1.curStatus? = some .runnable := by decide +kernel
set_option maxRecDepth 65536 in
theorem w_alone : about1.alone = true := by decide +kernel
set_option maxRecDepth 65536 in
theorem w_named : about1.methodNamed? x = some theMethod := by decide +kernel
set_option maxRecDepth 65536 in
theorem w_hears : about1.hears theMethod below0 = true := by decide +kernel
set_option maxRecDepth 65536 in
theorem w_ripe : about1.ripe theMethod args0 below0 = true := by decide +kernel
theorem w_running : about1.status = .running := rfl
set_option maxRecDepth 65536 in
theorem w_room : about1.hasRoom e0.platform room_1 = true :=
  launch0.hasRoom_least _ room_1 (by decide +kernel) (by decide +kernel) (by decide +kernel) (by decide +kernel) (by decide +kernel) (by decide +kernel)
theorem allAtoms_all (ts : List Jvm.Cond) (a : Array Jvm.Value) (st : Jvm.State) : (allAtoms ts).before a st = ts.all (fun c => c.before a st) := by
  induction ts with
  | nil => rfl
  | cons c t ih =>
    show (Jvm.Cond.and c (allAtoms t)).before a st = _
    rw [Jvm.Cond.before_and, ih, List.all_cons]
def words1 : List Jvm.Cond := Jvm.Cond.code x code maxLocals ret :: tables_1
/-- a 'code' word, met by the world's own term for the bytes: nothing is compared byte by byte -/
theorem code_word {y : MethodName} {bytes : ByteArray} {mx : Nat} {rt : Option FieldType} {a : Array Value} {s : State} {m : MethodId} {meth : Method} {c : Code} (h1 : s.methodNamed? y = some m) (h2 : s.vm.method? m = some meth) (h3 : meth.code = some c) (h4 : c.code = bytes)
    (h5 : (c.maxLocals == mx && c.exceptionTable.isEmpty && decide (c.maxStack ≤ mostOperands) && decide (meth.sig.returnType = rt) && !meth.locks && decide (parseMethodDescriptor y.desc = some meth.sig)) = true) : (Jvm.Cond.code y bytes mx rt).before a s = true := by
  simp only [Bool.and_eq_true, beq_iff_eq, Bool.not_eq_true', decide_eq_true_eq] at h5
  obtain ⟨⟨⟨⟨⟨g1, g2⟩, g3⟩, g4⟩, g5⟩, g6⟩ := h5
  simp [Cond.before, Cond.holds, Cond.value, h1, h2, h3, h4, g1, g2, g3, g4, g5, g6]
def isCode : Jvm.Cond → Bool
  | .code _ _ _ _ => true
  | _ => false
theorem all_split {L : List Jvm.Cond} {P : Jvm.Cond → Bool} (h1 : L.all (fun c => isCode c || P c) = true) (h2 : ∀ c ∈ L.filter isCode, P c = true) : L.all P = true := by
  refine List.all_eq_true.mpr fun c hc => ?_
  have h := List.all_eq_true.mp h1 c hc
  rcases Bool.eq_false_or_eq_true (isCode c) with hi | hi
  · exact h2 c (List.mem_filter.mpr ⟨hc, hi⟩)
  · simpa [hi] using h
set_option maxRecDepth 65536 in
theorem w_c0 : (Jvm.Cond.code x code maxLocals ret).before args0 about1 = true := code_word (m := ⟨1, 1⟩) (meth := k1m1) (c := k1c1) (by decide +kernel) rfl rfl rfl (by decide +kernel)
set_option maxRecDepth 65536 in
theorem w_c1 : (Jvm.Cond.code ({ cls := "com/example/known_leaks/knownleaks/CellPackingWritePinLaw", name := "bitLength", desc := "(I)I" } : Jvm.MethodName) method_3_code (1 : Nat) (Option.some Jvm.ClassFile.FieldType.int)).before args0 about1 = true := code_word (m := ⟨1, 2⟩) (meth := k1m2) (c := k1c2) (by decide +kernel) rfl rfl rfl (by decide +kernel)
set_option maxRecDepth 65536 in
theorem w_c2 : (Jvm.Cond.code ({ cls := "com/example/known_leaks/knownleaks/CellPacking", name := "<init>", desc := "(II)V" } : Jvm.MethodName) prog_4_method_1_code (6 : Nat) (Option.none : Option Jvm.ClassFile.FieldType)).before args0 about1 = true := code_word (m := ⟨2, 0⟩) (meth := k2m0) (c := k2c0) (by decide +kernel) rfl rfl rfl (by decide +kernel)
set_option maxRecDepth 65536 in
theorem w_c3 : (Jvm.Cond.code ({ cls := "java/lang/Object", name := "<init>", desc := "()V" } : Jvm.MethodName) object_method_1_code (1 : Nat) (Option.none : Option Jvm.ClassFile.FieldType)).before args0 about1 = true := code_word (m := ⟨0, 0⟩) (meth := k0m0) (c := k0c0) (by decide +kernel) rfl rfl rfl (by decide +kernel)
set_option maxRecDepth 65536 in
theorem w_c4 : (Jvm.Cond.code ({ cls := "java/lang/Long", name := "numberOfLeadingZeros", desc := "(J)I" } : Jvm.MethodName) jdk_35_method_48_code (3 : Nat) (Option.some Jvm.ClassFile.FieldType.int)).before args0 about1 = true := code_word (m := ⟨8, 0⟩) (meth := k8m0) (c := k8c0) (by decide +kernel) rfl rfl rfl (by decide +kernel)
set_option maxRecDepth 65536 in
theorem w_c5 : (Jvm.Cond.code ({ cls := "java/lang/Integer", name := "numberOfLeadingZeros", desc := "(I)I" } : Jvm.MethodName) jdk_33_method_47_code (2 : Nat) (Option.some Jvm.ClassFile.FieldType.int)).before args0 about1 = true := code_word (m := ⟨9, 0⟩) (meth := k9m0) (c := k9c0) (by decide +kernel) rfl rfl rfl (by decide +kernel)
set_option maxRecDepth 65536 in
theorem w_c6 : (Jvm.Cond.code ({ cls := "com/example/known_leaks/knownleaks/CellPacking", name := "write", desc := "([I[BI)V" } : Jvm.MethodName) prog_4_method_7_code (15 : Nat) (Option.none : Option Jvm.ClassFile.FieldType)).before args0 about1 = true := code_word (m := ⟨2, 1⟩) (meth := k2m1) (c := k2c1) (by decide +kernel) rfl rfl rfl (by decide +kernel)
set_option maxRecDepth 65536 in
theorem w_c7 : (Jvm.Cond.code ({ cls := "com/example/known_leaks/knownleaks/CellPackingWritePinLaw", name := "block", desc := "([III[J)J" } : Jvm.MethodName) method_5_code (7 : Nat) (Option.some Jvm.ClassFile.FieldType.long)).before args0 about1 = true := code_word (m := ⟨1, 4⟩) (meth := k1m4) (c := k1c4) (by decide +kernel) rfl rfl rfl (by decide +kernel)
set_option maxRecDepth 65536 in
theorem w_c8 : (Jvm.Cond.code ({ cls := "com/example/known_leaks/knownleaks/CellPackingWritePinLaw", name := "cellAt", desc := "([II)J" } : Jvm.MethodName) method_4_code (2 : Nat) (Option.some Jvm.ClassFile.FieldType.long)).before args0 about1 = true := code_word (m := ⟨1, 3⟩) (meth := k1m3) (c := k1c3) (by decide +kernel) rfl rfl rfl (by decide +kernel)
set_option maxRecDepth 65536 in
theorem w_c9 : (Jvm.Cond.code ({ cls := "com/example/known_leaks/knownleaks/CellPackingWritePinLaw", name := "place", desc := "(JIII)J" } : Jvm.MethodName) method_6_code (5 : Nat) (Option.some Jvm.ClassFile.FieldType.long)).before args0 about1 = true := code_word (m := ⟨1, 5⟩) (meth := k1m5) (c := k1c5) (by decide +kernel) rfl rfl rfl (by decide +kernel)
set_option maxRecDepth 65536 in
theorem w_c10 : (Jvm.Cond.code ({ cls := "com/example/known_leaks/knownleaks/CellPackingWritePinLaw", name := "byteOk", desc := "([BIJ)Z" } : Jvm.MethodName) method_7_code (4 : Nat) (Option.some Jvm.ClassFile.FieldType.boolean)).before args0 about1 = true := code_word (m := ⟨1, 6⟩) (meth := k1m6) (c := k1c6) (by decide +kernel) rfl rfl rfl (by decide +kernel)
set_option maxRecDepth 65536 in
theorem w_c11 : (Jvm.Cond.code ({ cls := "java/lang/Math", name := "min", desc := "(II)I" } : Jvm.MethodName) jdk_29_method_69_code (2 : Nat) (Option.some Jvm.ClassFile.FieldType.int)).before args0 about1 = true := code_word (m := ⟨10, 1⟩) (meth := k10m1) (c := k10c1) (by decide +kernel) rfl rfl rfl (by decide +kernel)
def codes1 : List Jvm.Cond := [Jvm.Cond.code x code maxLocals ret, Jvm.Cond.code ({ cls := "com/example/known_leaks/knownleaks/CellPackingWritePinLaw", name := "bitLength", desc := "(I)I" } : Jvm.MethodName) method_3_code (1 : Nat) (Option.some Jvm.ClassFile.FieldType.int), Jvm.Cond.code ({ cls := "com/example/known_leaks/knownleaks/CellPacking", name := "<init>", desc := "(II)V" } : Jvm.MethodName) prog_4_method_1_code (6 : Nat) (Option.none : Option Jvm.ClassFile.FieldType), Jvm.Cond.code ({ cls := "java/lang/Object", name := "<init>", desc := "()V" } : Jvm.MethodName) object_method_1_code (1 : Nat) (Option.none : Option Jvm.ClassFile.FieldType), Jvm.Cond.code ({ cls := "java/lang/Long", name := "numberOfLeadingZeros", desc := "(J)I" } : Jvm.MethodName) jdk_35_method_48_code (3 : Nat) (Option.some Jvm.ClassFile.FieldType.int), Jvm.Cond.code ({ cls := "java/lang/Integer", name := "numberOfLeadingZeros", desc := "(I)I" } : Jvm.MethodName) jdk_33_method_47_code (2 : Nat) (Option.some Jvm.ClassFile.FieldType.int), Jvm.Cond.code ({ cls := "com/example/known_leaks/knownleaks/CellPacking", name := "write", desc := "([I[BI)V" } : Jvm.MethodName) prog_4_method_7_code (15 : Nat) (Option.none : Option Jvm.ClassFile.FieldType), Jvm.Cond.code ({ cls := "com/example/known_leaks/knownleaks/CellPackingWritePinLaw", name := "block", desc := "([III[J)J" } : Jvm.MethodName) method_5_code (7 : Nat) (Option.some Jvm.ClassFile.FieldType.long), Jvm.Cond.code ({ cls := "com/example/known_leaks/knownleaks/CellPackingWritePinLaw", name := "cellAt", desc := "([II)J" } : Jvm.MethodName) method_4_code (2 : Nat) (Option.some Jvm.ClassFile.FieldType.long), Jvm.Cond.code ({ cls := "com/example/known_leaks/knownleaks/CellPackingWritePinLaw", name := "place", desc := "(JIII)J" } : Jvm.MethodName) method_6_code (5 : Nat) (Option.some Jvm.ClassFile.FieldType.long), Jvm.Cond.code ({ cls := "com/example/known_leaks/knownleaks/CellPackingWritePinLaw", name := "byteOk", desc := "([BIJ)Z" } : Jvm.MethodName) method_7_code (4 : Nat) (Option.some Jvm.ClassFile.FieldType.boolean), Jvm.Cond.code ({ cls := "java/lang/Math", name := "min", desc := "(II)I" } : Jvm.MethodName) jdk_29_method_69_code (2 : Nat) (Option.some Jvm.ClassFile.FieldType.int)]
set_option maxRecDepth 65536 in
theorem codes_eq : words1.filter isCode = codes1 := rfl
theorem w_codes : ∀ c ∈ words1.filter isCode, c.before args0 about1 = true := by
  rw [codes_eq]
  intro c hc
  simp only [codes1, List.mem_cons, List.not_mem_nil, or_false] at hc
  rcases hc with rfl | rfl | rfl | rfl | rfl | rfl | rfl | rfl | rfl | rfl | rfl | rfl
  · exact w_c0
  · exact w_c1
  · exact w_c2
  · exact w_c3
  · exact w_c4
  · exact w_c5
  · exact w_c6
  · exact w_c7
  · exact w_c8
  · exact w_c9
  · exact w_c10
  · exact w_c11
set_option maxRecDepth 65536 in
theorem w_t1 : (words1.take 24).all (fun c => isCode c || c.before args0 about1) = true := by decide +kernel
set_option maxRecDepth 65536 in
theorem w_t2 : ((words1.drop 24).take 24).all (fun c => isCode c || c.before args0 about1) = true := by decide +kernel
set_option maxRecDepth 65536 in
theorem w_t3 : ((words1.drop 24).drop 24).all (fun c => isCode c || c.before args0 about1) = true := by decide +kernel
theorem w_tables : (allAtoms (Jvm.Cond.code x code maxLocals ret :: tables_1)).before args0 about1 = true := by
  rw [allAtoms_all]
  show words1.all (fun c => c.before args0 about1) = true
  refine all_split ?_ w_codes
  rw [← List.take_append_drop 24 words1, List.all_append, w_t1, ← List.take_append_drop 24 (words1.drop 24), List.all_append, w_t2, w_t3]
  rfl
set_option maxRecDepth 65536 in
theorem w_case : (Jvm.Cond.and given_1 narrow_1).before args0 about1 = true := by decide +kernel
theorem w_applies : (headSpec (Jvm.Cond.code x code maxLocals ret :: tables_1) room_1).applies x e0.platform about1 = true :=
  (Spec.applies_iff w_frames).mpr ⟨w_running, w_runnable, w_alone, w_named, w_hears, w_ripe, w_room, w_tables⟩
theorem atStart : AtStart classFile x code maxLocals ret World_1 tables_1 room_1 Calls_1 rest_1 Pre_1 launch0 p0 e0 about1 theMethod args0 below0 :=
  ⟨lists_1, trivial, launch0.admits_env _ _ _, launch0.least_env, fairChoices_fair.cas, fairChoices_fair.clock, w_frames, w_args, w_heap, w_applies, trivial, trivial, w_case⟩
end start1
theorem witness_1 : WitnessClaimed_1 := ⟨start1.p0, start1.e0, start1.about1, start1.theMethod, start1.args0, start1.below0, start1.atStart⟩
end Jvm.Pilot.@@N@@
