import JvmDerived
import JvmDerived.Pilot.@@N@@Statement
import JvmDerived.Pilot.@@N@@Code
set_option linter.unusedVariables false
set_option linter.unusedSimpArgs false
namespace Jvm.RoadKit
open Sem ClassFile Op Lib Jvm.Stand Jvm.Free Jvm.LawKit
section New
variable {p : Program} {l : Launch} {e : Env} {R : Room} {s : State} {m : MethodId} {args : Array Value} {below : List Frame} {meth : Method} {c : Code} {T : State} {locs : List Loc} {cells slots : Nat}
theorem retI (X : Stand p l e R s m args below meth c T locs cells slots) (hx : p.tables.exec = Jvm.exec) {pc : Nat} {Ls : Array Slot} {z : Int32} {rest : List Value} (hret : meth.sig.returnType = some .int) (hd : decode c.code pc = .ok (.ireturn, 1)) {fs : List Frame}
    (hl : ∀ (f : JFrame) (acts : List Action), f.method = m → f.locked = none → f.entered = [] → (doReturn e (T.setTop f) acts (some (.int z))).1 = T.setFrames fs) : Steps p.tables e below (T.setTop (mkF m pc Ls (.int z :: rest))) (T.setFrames fs) := by
  have hm' : T.vm.method? m = some meth := X.method'
  have hn : narrow .int (.int z) = .int z := rfl
  show Steps p.tables e below (T.setTop { method := m, pc := pc, locals := Ls, stack := _ :: rest, locked := none }) _
  jvm_step X.here [X.here.top, hx, hd, hm', hret, hn]
  first | (intro acts; rw [hl _ acts rfl rfl rfl]) | rw [hl _ _ rfl rfl rfl]
  exact Steps.refl _
end New
end Jvm.RoadKit
namespace Jvm.Pilot.@@N@@
open Jvm Jvm.ClassFile Sem Op Lib Jvm.Free Jvm.Stand Jvm.LawKit Jvm.RoadKit Bundle Jvm.Pilot.@@N@@.Jvm.D
theorem ow {Z : State} {a0 : Array Value} (hw : ∀ d ∈ tables_1, d.before a0 Z = true) (i : Nat) {d : Jvm.Cond} (h : tables_1[i]? = some d) : d.before a0 Z = true := hw _ (List.mem_of_getElem? h)
abbrev Y0 : MethodName := ⟨"com/example/surebit/surebit/input/HexNumberDigitsPinLaw", "hex", "(I)C"⟩
abbrev Y1 : MethodName := ⟨"com/example/surebit/surebit/input/HexNumber", "isHexDigit", "(C)Z"⟩
abbrev Y2 : MethodName := ⟨"jdk/internal/util/Preconditions", "checkIndex", "(IILjava/util/function/BiFunction;)I"⟩
abbrev Y3 : MethodName := ⟨"java/lang/String", "checkIndex", "(II)V"⟩
abbrev Y4 : MethodName := ⟨"jdk/internal/util/Preconditions", "checkFromToIndex", "(IIILjava/util/function/BiFunction;)I"⟩
abbrev Y5 : MethodName := ⟨"java/lang/String", "checkBoundsBeginEnd", "(III)V"⟩
abbrev Y6 : MethodName := ⟨"java/util/Arrays", "checkLength", "(II)V"⟩
abbrev Y7 : MethodName := ⟨"java/lang/String", "coder", "()B"⟩
abbrev Y8 : MethodName := ⟨"java/lang/String", "isLatin1", "()Z"⟩
abbrev Y9 : MethodName := ⟨"java/lang/String", "length", "()I"⟩
abbrev Y10 : MethodName := ⟨"java/lang/StringLatin1", "charAt", "([BI)C"⟩
abbrev Y11 : MethodName := ⟨"java/lang/String", "charAt", "(I)C"⟩
abbrev Y12 : MethodName := ⟨"jdk/internal/util/ArraysSupport", "mismatch", "([BI[BII)I"⟩
abbrev Y13 : MethodName := ⟨"java/lang/String", "startsWith", "(Ljava/lang/String;I)Z"⟩
abbrev Y14 : MethodName := ⟨"java/lang/String", "endsWith", "(Ljava/lang/String;)Z"⟩
abbrev Y15 : MethodName := ⟨"java/lang/String", "<init>", "([BB)V"⟩
abbrev Y16 : MethodName := ⟨"java/lang/Math", "min", "(II)I"⟩
abbrev Y17 : MethodName := ⟨"java/util/Arrays", "copyOfRangeByte", "([BII)[B"⟩
abbrev Y18 : MethodName := ⟨"java/util/Arrays", "copyOfRange", "([BII)[B"⟩
abbrev Y19 : MethodName := ⟨"java/lang/StringLatin1", "newString", "([BII)Ljava/lang/String;"⟩
abbrev Y20 : MethodName := ⟨"java/lang/String", "substring", "(II)Ljava/lang/String;"⟩
abbrev Y21 : MethodName := ⟨"com/example/surebit/surebit/input/HexNumber", "digits", "(Ljava/lang/String;Ljava/lang/String;)Ljava/lang/String;"⟩
abbrev Y22 : MethodName := ⟨"java/lang/StringUTF16", "compress", "([CI[BII)I"⟩
abbrev Y23 : MethodName := ⟨"java/lang/StringUTF16", "compress", "([CII)[B"⟩
abbrev Y24 : MethodName := ⟨"java/lang/StringUTF16", "coderFromArrayLen", "([BI)B"⟩
abbrev Y25 : MethodName := ⟨"java/lang/String", "<init>", "([CIILjava/lang/Void;)V"⟩
abbrev Y26 : MethodName := ⟨"java/lang/String", "<init>", "([C)V"⟩
abbrev Y27 : MethodName := ⟨"com/example/surebit/surebit/input/HexNumberDigitsPinLaw", "take", "([CI)Ljava/lang/String;"⟩
abbrev Y28 : MethodName := ⟨"java/lang/StringLatin1", "equals", "([B[B)Z"⟩
abbrev Y29 : MethodName := ⟨"java/lang/String", "equals", "(Ljava/lang/Object;)Z"⟩
def Wp (p : Program) (e : Env) (below : List Frame) (G : Outcome → State → Prop) (U : State) : Prop := ∃ s₂ o, Steps p.tables e below U s₂ ∧ s₂.status = .running ∧ Ended s₂ below o ∧ G o s₂
theorem Wp.back {p : Program} {e : Env} {below : List Frame} {G : Outcome → State → Prop} {U U' : State} (k : ∀ t, Steps p.tables e below U' t → Steps p.tables e below U t) (h : Wp p e below G U') : Wp p e below G U := by
  obtain ⟨s₂, o, h1, h2⟩ := h
  exact ⟨s₂, o, k _ h1, h2⟩
theorem Wp.done {p : Program} {e : Env} {below : List Frame} {G : Outcome → State → Prop} {U t : State} {o : Outcome} (h1 : Steps p.tables e below U t) (h2 : t.status = .running) (h3 : Ended t below o) (h4 : G o t) : Wp p e below G U := ⟨t, o, h1, h2, h3, h4⟩
/-- a body's contract -/
abbrev Met (l : Launch) (Z : State) (y : MethodName) (bytes : ByteArray) (maxL : Nat) (ret : Option FieldType) (ws : List Jvm.Cond) (R : Room) (A : Array Value) (h0 : Heap) (Q : Option Value → Heap → List Loc → Prop) : Prop :=
  MetFree l y (head1 (Jvm.Cond.code y bytes maxL ret :: ws) R) (fun a U => a = A ∧ Z.Warmed39 U.vm ∧ U.heap = h0) (fun _ _ _ _ _ => True) (fun _ U o U' => ∃ v L, o = .returned v ∧ Q v U'.heap L ∧ FrameEnd U o U' L R.cells R.slots)
theorem own_body {l : Launch} {Z : State} {y : MethodName} {bytes : ByteArray} {maxL : Nat} {ret : Option FieldType} {ws : List Jvm.Cond} {R : Room} {A : Array Value} {h0 : Heap} {Q : Option Value → Heap → List Loc → Prop} (pl : plainFor y = true)
    (k : ∀ (p : Program) (e : Env) (s : State) (m : MethodId) (below : List Frame) (meth : Method) (c : Code) (s₁ : State), p.tables.exec = Jvm.exec → c.code = bytes → meth.sig.returnType = ret → meth.locks = false → c.maxLocals = maxL → Z.Warmed39 s.vm → s.vm.findClass y.cls = some m.cls → meth.name = y.name → Stand p l e R s m A below meth c s₁ [] 0 0 → s₁.heap = h0 →
      Wp p e below (fun o s₂ => ∃ v L, o = .returned v ∧ Q v s₂.heap L ∧ FrameEnd s o s₂ L R.cells R.slots) (s₁.setTop (entryFrame m A maxL))) : Met l Z y bytes maxL ret ws R A h0 Q := by
  refine MetFree.of_bodySF pl hisR ?_
  intro p e s m args below meth c s₁ Bd hml0 hP hK
  obtain ⟨rfl, hZ, hh⟩ := hP
  exact k p e s m below meth c s₁ Bd.exec Bd.bytes Bd.returns Bd.notSynchronized hml0 hZ (findClass_of_methodNamed Bd.named) (name_of_methodNamed Bd.named Bd.method).1 (Stand.of_body Bd) (by rw [← hh, Bd.state]; rfl)
/-- what a body leaves that writes nothing -/
def QL (n0 : Nat) (v : Option Value) (h : Heap) (L : List Loc) : Prop := v = some (.int 1) ∧ Fr n0 L
def QP (r : Option Value) (h0 : Heap) (n0 : Nat) (v : Option Value) (h : Heap) (L : List Loc) : Prop := v = r ∧ Fr n0 L ∧ h = h0
theorem own_irrefl (x : Int32) : ¬ x < x := by rw [Int32.lt_iff_toInt_lt]; omega
theorem Sta_keep {Z : State} {h h' : Heap} {ws : List Addr} {C n d : String} {v : Value} (F : Sta Z h C n d v) (K : Keep h h' ws) (q : ∀ x ∈ ws, ∃ c : Cell, h[x]? = some c ∧ c.vm.isStatics = false) : Sta Z h' C n d v := by
  obtain ⟨cf, i, k, f, st, cell, h1, h2, h3, h4, h5, h6, r⟩ := F
  refine ⟨cf, i, k, f, st, cell, h1, h2, h3, h4, K.2.1 _ _ h5 (fun hm => ?_), h6, r⟩
  obtain ⟨c, hc, hs⟩ := q _ hm
  rw [h5] at hc
  cases hc
  rw [h6] at hs
  cases hs
theorem Exa_ns {Z : State} {h : Heap} {a : Addr} {C : String} (F : Exa Z h a C) : ∃ c : Cell, h[a]? = some c ∧ c.vm.isStatics = false := by
  obtain ⟨c, k, h1, h2, h3, h4, r⟩ := F
  exact ⟨c, h1, h4⟩
theorem Fld_ns {Z : State} {h : Heap} {a : Addr} {C n d : String} {v : Value} (F : Fld Z h a C n d v) : ∃ c : Cell, h[a]? = some c ∧ c.vm.isStatics = false := by
  obtain ⟨c, cf, k, i, f, h1, h2, h3, h4, h5, r⟩ := F
  exact ⟨c, h1, h5⟩
theorem Arv_ns {Z : State} {h : Heap} {a : Addr} {k : ClassId} {ty : FieldType} {n : Int32} {vs : List Value} {d : Value} (F : Arv Z h a k ty n vs d) : ∃ c : Cell, h[a]? = some c ∧ c.vm.isStatics = false := by
  obtain ⟨c, A, r⟩ := F
  exact ⟨c, A.1, A.plain⟩
theorem Sta_keep0 {Z : State} {h h' : Heap} {C n d : String} {v : Value} (F : Sta Z h C n d v) (K : Keep h h' []) : Sta Z h' C n d v := by
  obtain ⟨cf, i, k, f, st, cell, h1, h2, h3, h4, h5, r⟩ := F
  exact ⟨cf, i, k, f, st, cell, h1, h2, h3, h4, K.2.1 _ _ h5 nin0, r⟩
theorem own_EW {Z : State} {a0 : Array Value} (hw : ∀ d ∈ tables_1, d.before a0 Z = true) : EW Z a0 consts_1 := (EW.cons (ow hw 45 rfl) (by decide) (EW.cons (ow hw 38 rfl) (by decide) EW.nil))
theorem own_sub : ∀ d ∈ Bundle.stringAtoms, d ∈ tables_1 := by decide +kernel
theorem own_wS {Z : State} {a0 : Array Value} (hw : ∀ d ∈ tables_1, d.before a0 Z = true) : ∀ d ∈ Bundle.stringAtoms, d.before a0 Z = true := fun d hd => hw d (own_sub d hd)
theorem own_more {p : Program} {l : Launch} {e : Env} {R : Room} {s : State} {m : MethodId} {args : Array Value} {below : List Frame} {meth : Method} {c : Code} {T : State} {locs : List Loc} {cells slots c' s' : Nat} (X : Stand p l e R s m args below meth c T locs cells slots) (h1 : cells ≤ c') (h2 : slots ≤ s') : Stand p l e R s m args below meth c T locs c' s' :=
  ⟨X.admits, X.cas, X.clock, X.frames, X.room, X.hears, X.method, X.code, X.here, X.tail, X.warmed, X.limits, X.bytes, X.same.mono h1 h2⟩
def f_hex (p0 : Int32) : Int32 := (if ((p0 &&& (2147483647 : Int32)) % (22 : Int32)) < (10 : Int32) then (nar .char (((48 : Int32) + ((p0 &&& (2147483647 : Int32)) % (22 : Int32)))).toUInt32.toUInt16.toUInt32.toInt32) else (if ((p0 &&& (2147483647 : Int32)) % (22 : Int32)) < (16 : Int32) then (nar .char (((97 : Int32) + (((p0 &&& (2147483647 : Int32)) % (22 : Int32)) - (10 : Int32)))).toUInt32.toUInt16.toUInt32.toInt32) else (nar .char (((65 : Int32) + (((p0 &&& (2147483647 : Int32)) % (22 : Int32)) - (16 : Int32)))).toUInt32.toUInt16.toUInt32.toInt32)))
theorem d1_0 : decode method_3_code 0 = .ok (.iload_n 0, 1) := by decide +kernel
theorem d1_1 : decode method_3_code 1 = .ok (.ldc 31, 2) := by decide +kernel
theorem d1_3 : decode method_3_code 3 = .ok (.iand, 1) := by decide +kernel
theorem d1_4 : decode method_3_code 4 = .ok (.bipush 22, 2) := by decide +kernel
theorem d1_6 : decode method_3_code 6 = .ok (.irem, 1) := by decide +kernel
theorem d1_7 : decode method_3_code 7 = .ok (.istore_n 1, 1) := by decide +kernel
theorem d1_8 : decode method_3_code 8 = .ok (.iload_n 1, 1) := by decide +kernel
theorem d1_9 : decode method_3_code 9 = .ok (.bipush 10, 2) := by decide +kernel
theorem d1_11 : decode method_3_code 11 = .ok (.if_icmp .ge 9, 3) := by decide +kernel
theorem d1_14 : decode method_3_code 14 = .ok (.bipush 48, 2) := by decide +kernel
theorem d1_16 : decode method_3_code 16 = .ok (.iload_n 1, 1) := by decide +kernel
theorem d1_17 : decode method_3_code 17 = .ok (.iadd, 1) := by decide +kernel
theorem d1_18 : decode method_3_code 18 = .ok (.i2c, 1) := by decide +kernel
theorem d1_19 : decode method_3_code 19 = .ok (.ireturn, 1) := by decide +kernel
theorem d1_20 : decode method_3_code 20 = .ok (.iload_n 1, 1) := by decide +kernel
theorem d1_21 : decode method_3_code 21 = .ok (.bipush 16, 2) := by decide +kernel
theorem d1_23 : decode method_3_code 23 = .ok (.if_icmp .ge 12, 3) := by decide +kernel
theorem d1_26 : decode method_3_code 26 = .ok (.bipush 97, 2) := by decide +kernel
theorem d1_28 : decode method_3_code 28 = .ok (.iload_n 1, 1) := by decide +kernel
theorem d1_29 : decode method_3_code 29 = .ok (.bipush 10, 2) := by decide +kernel
theorem d1_31 : decode method_3_code 31 = .ok (.isub, 1) := by decide +kernel
theorem d1_32 : decode method_3_code 32 = .ok (.iadd, 1) := by decide +kernel
theorem d1_33 : decode method_3_code 33 = .ok (.i2c, 1) := by decide +kernel
theorem d1_34 : decode method_3_code 34 = .ok (.ireturn, 1) := by decide +kernel
theorem d1_35 : decode method_3_code 35 = .ok (.bipush 65, 2) := by decide +kernel
theorem d1_37 : decode method_3_code 37 = .ok (.iload_n 1, 1) := by decide +kernel
theorem d1_38 : decode method_3_code 38 = .ok (.bipush 16, 2) := by decide +kernel
theorem d1_40 : decode method_3_code 40 = .ok (.isub, 1) := by decide +kernel
theorem d1_41 : decode method_3_code 41 = .ok (.iadd, 1) := by decide +kernel
theorem d1_42 : decode method_3_code 42 = .ok (.i2c, 1) := by decide +kernel
theorem d1_43 : decode method_3_code 43 = .ok (.ireturn, 1) := by decide +kernel
theorem pn1 : plainName "com/example/surebit/surebit/input/HexNumberDigitsPinLaw" = true := by first | (simp [plainName, overriddenIn]; done) | decide +kernel
theorem ef1_I (m : MethodId) (x0 : Int32) : entryFrame m #[(.int x0)] 2 = mkF m 0 #[.val (.int x0), .unset] [] := by first | (simp [entryFrame, mkF, argsToLocals, Value.category]; done) | rfl
set_option maxRecDepth 65536 in
set_option maxHeartbeats 40000000 in
theorem rm_f_hex (l : Launch) (Z : State) (a0 : Array Value) (hw : ∀ d ∈ tables_1, d.before a0 Z = true) (ws : List Jvm.Cond) (p0 : Int32) (h0 : Heap) (n0 : Nat) (Z0 : n0 ≤ h0.size)  :
    Met l Z Y0 method_3_code 2 (some .char) ws ({ frames := 0, cells := 0, slots := 0, locals := 0 } : Room) #[(.int p0)] h0 (QP (some (.int (f_hex p0))) h0 n0) := by
  refine own_body (plainFor_of_name pn1) ?_
  intro p e s m below meth c s₁ hx hby hret hlk hml hZ hown hnm X0 e0
  have N0 := Fr.nil n0
  refine Wp.back (U' := (s₁.setTop (mkF m 0 #[.val (.int p0), .unset] []))) (fun t k => castTop (ef1_I m p0) k) ?_
  refine Wp.back (U' := (s₁.setTop (mkF m 11 #[.val (.int p0), .val (.int ((p0 &&& (2147483647 : Int32)) % (22 : Int32)))] [(.int 10), (.int ((p0 &&& (2147483647 : Int32)) % (22 : Int32)))]))) (fun t k => XS.iloadN X0.here hx rfl (hb hby d1_0) rfl (Jvm.Stand.ldcI X0 hx hown (mvT hZ (ow hw 5 rfl)) rfl (hb hby d1_1) (XS.iand X0.here hx rfl (hb hby d1_3) rfl (XT.bipushV X0.here hx rfl 22 (hb hby d1_4) (by decide) (iremM X0 hx rfl (hb hby d1_6) rfl (by decide) (XS.istoreN X0.here hx rfl (hb hby d1_7) rfl (l' := #[.val (.int p0), .val (.int ((p0 &&& (2147483647 : Int32)) % (22 : Int32)))]) rfl (XS.iloadN X0.here hx rfl (hb hby d1_8) rfl (XT.bipushV X0.here hx rfl 10 (hb hby d1_9) (by decide) k)))))))) ?_
  by_cases c11_1 : ((p0 &&& (2147483647 : Int32)) % (22 : Int32)) < (10 : Int32)
  · refine Wp.back (U' := (s₁.setTop (mkF m 19 #[.val (.int p0), .val (.int ((p0 &&& (2147483647 : Int32)) % (22 : Int32)))] [(.int (((48 : Int32) + ((p0 &&& (2147483647 : Int32)) % (22 : Int32)))).toUInt32.toUInt16.toUInt32.toInt32)]))) (fun t k => XS.icmpNo X0.here hx rfl (hb hby d1_11) rfl (tlt c11_1).2.1 (XT.bipushV X0.here hx rfl 48 (hb hby d1_14) (by decide) (XS.iloadN X0.here hx rfl (hb hby d1_16) rfl (XS.iadd X0.here hx rfl (hb hby d1_17) rfl (XS.i2c X0.here hx rfl (hb hby d1_18) rfl k))))) ?_
    obtain ⟨fs, hr, hrun, hended, hW, hsame⟩ := X0.leave (v := (some (.int (nar .char (((48 : Int32) + ((p0 &&& (2147483647 : Int32)) % (22 : Int32)))).toUInt32.toUInt16.toUInt32.toInt32)))) (fun h => by rw [hret] at h; cases h)
    refine Wp.done (retN X0 hx (t := .char) hret (by simp) (hb hby d1_19) hr) hrun hended ⟨_, _, rfl, ?_, ⟨_, rfl⟩, hW, hsame.mono (by decide) (by decide)⟩
    show QP _ h0 n0 _ s₁.heap _
    exact ⟨(by rw [f_hex, if_pos c11_1]), N0, e0⟩
  · refine Wp.back (U' := (s₁.setTop (mkF m 23 #[.val (.int p0), .val (.int ((p0 &&& (2147483647 : Int32)) % (22 : Int32)))] [(.int 16), (.int ((p0 &&& (2147483647 : Int32)) % (22 : Int32)))]))) (fun t k => XS.icmpYes X0.here hx rfl (pc0 := 11) (pc' := 20) rfl (hb hby d1_11) rfl (flt c11_1).2.1 (by decide) (by decide) (XS.iloadN X0.here hx rfl (hb hby d1_20) rfl (XT.bipushV X0.here hx rfl 16 (hb hby d1_21) (by decide) k))) ?_
    by_cases c23_2 : ((p0 &&& (2147483647 : Int32)) % (22 : Int32)) < (16 : Int32)
    · refine Wp.back (U' := (s₁.setTop (mkF m 34 #[.val (.int p0), .val (.int ((p0 &&& (2147483647 : Int32)) % (22 : Int32)))] [(.int (((97 : Int32) + (((p0 &&& (2147483647 : Int32)) % (22 : Int32)) - (10 : Int32)))).toUInt32.toUInt16.toUInt32.toInt32)]))) (fun t k => XS.icmpNo X0.here hx rfl (hb hby d1_23) rfl (tlt c23_2).2.1 (XT.bipushV X0.here hx rfl 97 (hb hby d1_26) (by decide) (XS.iloadN X0.here hx rfl (hb hby d1_28) rfl (XT.bipushV X0.here hx rfl 10 (hb hby d1_29) (by decide) (XS.isub X0.here hx rfl (hb hby d1_31) rfl (XS.iadd X0.here hx rfl (hb hby d1_32) rfl (XS.i2c X0.here hx rfl (hb hby d1_33) rfl k))))))) ?_
      obtain ⟨fs, hr, hrun, hended, hW, hsame⟩ := X0.leave (v := (some (.int (nar .char (((97 : Int32) + (((p0 &&& (2147483647 : Int32)) % (22 : Int32)) - (10 : Int32)))).toUInt32.toUInt16.toUInt32.toInt32)))) (fun h => by rw [hret] at h; cases h)
      refine Wp.done (retN X0 hx (t := .char) hret (by simp) (hb hby d1_34) hr) hrun hended ⟨_, _, rfl, ?_, ⟨_, rfl⟩, hW, hsame.mono (by decide) (by decide)⟩
      show QP _ h0 n0 _ s₁.heap _
      exact ⟨(by rw [f_hex, if_neg c11_1, if_pos c23_2]), N0, e0⟩
    · refine Wp.back (U' := (s₁.setTop (mkF m 43 #[.val (.int p0), .val (.int ((p0 &&& (2147483647 : Int32)) % (22 : Int32)))] [(.int (((65 : Int32) + (((p0 &&& (2147483647 : Int32)) % (22 : Int32)) - (16 : Int32)))).toUInt32.toUInt16.toUInt32.toInt32)]))) (fun t k => XS.icmpYes X0.here hx rfl (pc0 := 23) (pc' := 35) rfl (hb hby d1_23) rfl (flt c23_2).2.1 (by decide) (by decide) (XT.bipushV X0.here hx rfl 65 (hb hby d1_35) (by decide) (XS.iloadN X0.here hx rfl (hb hby d1_37) rfl (XT.bipushV X0.here hx rfl 16 (hb hby d1_38) (by decide) (XS.isub X0.here hx rfl (hb hby d1_40) rfl (XS.iadd X0.here hx rfl (hb hby d1_41) rfl (XS.i2c X0.here hx rfl (hb hby d1_42) rfl k))))))) ?_
      obtain ⟨fs, hr, hrun, hended, hW, hsame⟩ := X0.leave (v := (some (.int (nar .char (((65 : Int32) + (((p0 &&& (2147483647 : Int32)) % (22 : Int32)) - (16 : Int32)))).toUInt32.toUInt16.toUInt32.toInt32)))) (fun h => by rw [hret] at h; cases h)
      refine Wp.done (retN X0 hx (t := .char) hret (by simp) (hb hby d1_43) hr) hrun hended ⟨_, _, rfl, ?_, ⟨_, rfl⟩, hW, hsame.mono (by decide) (by decide)⟩
      show QP _ h0 n0 _ s₁.heap _
      exact ⟨(by rw [f_hex, if_neg c11_1, if_neg c23_2]), N0, e0⟩
def f_ihd (p0 : Int32) : Int32 := (if p0 < (48 : Int32) then (if p0 < (97 : Int32) then (if p0 < (65 : Int32) then (0 : Int32) else (if (70 : Int32) < p0 then (0 : Int32) else (1 : Int32))) else (if (102 : Int32) < p0 then (if p0 < (65 : Int32) then (0 : Int32) else (if (70 : Int32) < p0 then (0 : Int32) else (1 : Int32))) else (1 : Int32))) else (if (57 : Int32) < p0 then (if p0 < (97 : Int32) then (if p0 < (65 : Int32) then (0 : Int32) else (if (70 : Int32) < p0 then (0 : Int32) else (1 : Int32))) else (if (102 : Int32) < p0 then (if p0 < (65 : Int32) then (0 : Int32) else (if (70 : Int32) < p0 then (0 : Int32) else (1 : Int32))) else (1 : Int32))) else (1 : Int32)))
theorem d20_0 : decode prog_36_method_5_code 0 = .ok (.iload_n 0, 1) := by decide +kernel
theorem d20_1 : decode prog_36_method_5_code 1 = .ok (.bipush 48, 2) := by decide +kernel
theorem d20_3 : decode prog_36_method_5_code 3 = .ok (.if_icmp .lt 9, 3) := by decide +kernel
theorem d20_6 : decode prog_36_method_5_code 6 = .ok (.iload_n 0, 1) := by decide +kernel
theorem d20_7 : decode prog_36_method_5_code 7 = .ok (.bipush 57, 2) := by decide +kernel
theorem d20_9 : decode prog_36_method_5_code 9 = .ok (.if_icmp .le 27, 3) := by decide +kernel
theorem d20_12 : decode prog_36_method_5_code 12 = .ok (.iload_n 0, 1) := by decide +kernel
theorem d20_13 : decode prog_36_method_5_code 13 = .ok (.bipush 97, 2) := by decide +kernel
theorem d20_15 : decode prog_36_method_5_code 15 = .ok (.if_icmp .lt 9, 3) := by decide +kernel
theorem d20_18 : decode prog_36_method_5_code 18 = .ok (.iload_n 0, 1) := by decide +kernel
theorem d20_19 : decode prog_36_method_5_code 19 = .ok (.bipush 102, 2) := by decide +kernel
theorem d20_21 : decode prog_36_method_5_code 21 = .ok (.if_icmp .le 15, 3) := by decide +kernel
theorem d20_24 : decode prog_36_method_5_code 24 = .ok (.iload_n 0, 1) := by decide +kernel
theorem d20_25 : decode prog_36_method_5_code 25 = .ok (.bipush 65, 2) := by decide +kernel
theorem d20_27 : decode prog_36_method_5_code 27 = .ok (.if_icmp .lt 13, 3) := by decide +kernel
theorem d20_30 : decode prog_36_method_5_code 30 = .ok (.iload_n 0, 1) := by decide +kernel
theorem d20_31 : decode prog_36_method_5_code 31 = .ok (.bipush 70, 2) := by decide +kernel
theorem d20_33 : decode prog_36_method_5_code 33 = .ok (.if_icmp .gt 7, 3) := by decide +kernel
theorem d20_36 : decode prog_36_method_5_code 36 = .ok (.iconst 1, 1) := by decide +kernel
theorem d20_37 : decode prog_36_method_5_code 37 = .ok (.goto 4, 3) := by decide +kernel
theorem d20_40 : decode prog_36_method_5_code 40 = .ok (.iconst 0, 1) := by decide +kernel
theorem d20_41 : decode prog_36_method_5_code 41 = .ok (.ireturn, 1) := by decide +kernel
theorem pn20 : plainName "com/example/surebit/surebit/input/HexNumber" = true := by first | (simp [plainName, overriddenIn]; done) | decide +kernel
theorem ef20_I (m : MethodId) (x0 : Int32) : entryFrame m #[(.int x0)] 1 = mkF m 0 #[.val (.int x0)] [] := by first | (simp [entryFrame, mkF, argsToLocals, Value.category]; done) | rfl
set_option maxRecDepth 65536 in
set_option maxHeartbeats 40000000 in
theorem rm_f_ihd (l : Launch) (Z : State) (a0 : Array Value) (hw : ∀ d ∈ tables_1, d.before a0 Z = true) (ws : List Jvm.Cond) (p0 : Int32) (h0 : Heap) (n0 : Nat) (Z0 : n0 ≤ h0.size)  :
    Met l Z Y1 prog_36_method_5_code 1 (some .boolean) ws ({ frames := 0, cells := 0, slots := 0, locals := 0 } : Room) #[(.int p0)] h0 (QP (some (.int (f_ihd p0))) h0 n0) := by
  refine own_body (plainFor_of_name pn20) ?_
  intro p e s m below meth c s₁ hx hby hret hlk hml hZ hown hnm X0 e0
  have N0 := Fr.nil n0
  refine Wp.back (U' := (s₁.setTop (mkF m 0 #[.val (.int p0)] []))) (fun t k => castTop (ef20_I m p0) k) ?_
  refine Wp.back (U' := (s₁.setTop (mkF m 3 #[.val (.int p0)] [(.int 48), (.int p0)]))) (fun t k => XS.iloadN X0.here hx rfl (hb hby d20_0) rfl (XT.bipushV X0.here hx rfl 48 (hb hby d20_1) (by decide) k)) ?_
  by_cases c3_1 : p0 < (48 : Int32)
  · refine Wp.back (U' := (s₁.setTop (mkF m 15 #[.val (.int p0)] [(.int 97), (.int p0)]))) (fun t k => XS.icmpYes X0.here hx rfl (pc0 := 3) (pc' := 12) rfl (hb hby d20_3) rfl (tlt c3_1).1 (by decide) (by decide) (XS.iloadN X0.here hx rfl (hb hby d20_12) rfl (XT.bipushV X0.here hx rfl 97 (hb hby d20_13) (by decide) k))) ?_
    by_cases c15_2 : p0 < (97 : Int32)
    · refine Wp.back (U' := (s₁.setTop (mkF m 27 #[.val (.int p0)] [(.int 65), (.int p0)]))) (fun t k => XS.icmpYes X0.here hx rfl (pc0 := 15) (pc' := 24) rfl (hb hby d20_15) rfl (tlt c15_2).1 (by decide) (by decide) (XS.iloadN X0.here hx rfl (hb hby d20_24) rfl (XT.bipushV X0.here hx rfl 65 (hb hby d20_25) (by decide) k))) ?_
      by_cases c27_3 : p0 < (65 : Int32)
      · refine Wp.back (U' := (s₁.setTop (mkF m 41 #[.val (.int p0)] [(.int 0)]))) (fun t k => XS.icmpYes X0.here hx rfl (pc0 := 27) (pc' := 40) rfl (hb hby d20_27) rfl (tlt c27_3).1 (by decide) (by decide) (XT.iconstV X0.here hx rfl 0 (hb hby d20_40) (by decide) k)) ?_
        obtain ⟨fs, hr, hrun, hended, hW, hsame⟩ := X0.leave (v := (some (.int 0))) (fun h => by rw [hret] at h; cases h)
        refine Wp.done (retN X0 hx (t := .boolean) hret (by simp) (hb hby d20_41) hr) hrun hended ⟨_, _, rfl, ?_, ⟨_, rfl⟩, hW, hsame.mono (by decide) (by decide)⟩
        show QP _ h0 n0 _ s₁.heap _
        exact ⟨(by rw [f_ihd, if_pos c3_1, if_pos c15_2, if_pos c27_3]), N0, e0⟩
      · refine Wp.back (U' := (s₁.setTop (mkF m 33 #[.val (.int p0)] [(.int 70), (.int p0)]))) (fun t k => XS.icmpNo X0.here hx rfl (hb hby d20_27) rfl (flt c27_3).1 (XS.iloadN X0.here hx rfl (hb hby d20_30) rfl (XT.bipushV X0.here hx rfl 70 (hb hby d20_31) (by decide) k))) ?_
        by_cases c33_4 : (70 : Int32) < p0
        · refine Wp.back (U' := (s₁.setTop (mkF m 41 #[.val (.int p0)] [(.int 0)]))) (fun t k => XS.icmpYes X0.here hx rfl (pc0 := 33) (pc' := 40) rfl (hb hby d20_33) rfl (tlt c33_4).2.2.1 (by decide) (by decide) (XT.iconstV X0.here hx rfl 0 (hb hby d20_40) (by decide) k)) ?_
          obtain ⟨fs, hr, hrun, hended, hW, hsame⟩ := X0.leave (v := (some (.int 0))) (fun h => by rw [hret] at h; cases h)
          refine Wp.done (retN X0 hx (t := .boolean) hret (by simp) (hb hby d20_41) hr) hrun hended ⟨_, _, rfl, ?_, ⟨_, rfl⟩, hW, hsame.mono (by decide) (by decide)⟩
          show QP _ h0 n0 _ s₁.heap _
          exact ⟨(by rw [f_ihd, if_pos c3_1, if_pos c15_2, if_neg c27_3, if_pos c33_4]), N0, e0⟩
        · refine Wp.back (U' := (s₁.setTop (mkF m 41 #[.val (.int p0)] [(.int 1)]))) (fun t k => XS.icmpNo X0.here hx rfl (hb hby d20_33) rfl (flt c33_4).2.2.1 (XT.iconstV X0.here hx rfl 1 (hb hby d20_36) (by decide) (XS.goto X0.here hx rfl (pc0 := 37) (pc' := 41) rfl (hb hby d20_37) (by decide) (by decide) k))) ?_
          obtain ⟨fs, hr, hrun, hended, hW, hsame⟩ := X0.leave (v := (some (.int 1))) (fun h => by rw [hret] at h; cases h)
          refine Wp.done (retN X0 hx (t := .boolean) hret (by simp) (hb hby d20_41) hr) hrun hended ⟨_, _, rfl, ?_, ⟨_, rfl⟩, hW, hsame.mono (by decide) (by decide)⟩
          show QP _ h0 n0 _ s₁.heap _
          exact ⟨(by rw [f_ihd, if_pos c3_1, if_pos c15_2, if_neg c27_3, if_neg c33_4]), N0, e0⟩
    · refine Wp.back (U' := (s₁.setTop (mkF m 21 #[.val (.int p0)] [(.int 102), (.int p0)]))) (fun t k => XS.icmpNo X0.here hx rfl (hb hby d20_15) rfl (flt c15_2).1 (XS.iloadN X0.here hx rfl (hb hby d20_18) rfl (XT.bipushV X0.here hx rfl 102 (hb hby d20_19) (by decide) k))) ?_
      by_cases c21_5 : (102 : Int32) < p0
      · refine Wp.back (U' := (s₁.setTop (mkF m 27 #[.val (.int p0)] [(.int 65), (.int p0)]))) (fun t k => XS.icmpNo X0.here hx rfl (hb hby d20_21) rfl (tlt c21_5).2.2.2 (XS.iloadN X0.here hx rfl (hb hby d20_24) rfl (XT.bipushV X0.here hx rfl 65 (hb hby d20_25) (by decide) k))) ?_
        by_cases c27_6 : p0 < (65 : Int32)
        · refine Wp.back (U' := (s₁.setTop (mkF m 41 #[.val (.int p0)] [(.int 0)]))) (fun t k => XS.icmpYes X0.here hx rfl (pc0 := 27) (pc' := 40) rfl (hb hby d20_27) rfl (tlt c27_6).1 (by decide) (by decide) (XT.iconstV X0.here hx rfl 0 (hb hby d20_40) (by decide) k)) ?_
          obtain ⟨fs, hr, hrun, hended, hW, hsame⟩ := X0.leave (v := (some (.int 0))) (fun h => by rw [hret] at h; cases h)
          refine Wp.done (retN X0 hx (t := .boolean) hret (by simp) (hb hby d20_41) hr) hrun hended ⟨_, _, rfl, ?_, ⟨_, rfl⟩, hW, hsame.mono (by decide) (by decide)⟩
          show QP _ h0 n0 _ s₁.heap _
          exact ⟨(by rw [f_ihd, if_pos c3_1, if_neg c15_2, if_pos c21_5, if_pos c27_6]), N0, e0⟩
        · refine Wp.back (U' := (s₁.setTop (mkF m 33 #[.val (.int p0)] [(.int 70), (.int p0)]))) (fun t k => XS.icmpNo X0.here hx rfl (hb hby d20_27) rfl (flt c27_6).1 (XS.iloadN X0.here hx rfl (hb hby d20_30) rfl (XT.bipushV X0.here hx rfl 70 (hb hby d20_31) (by decide) k))) ?_
          by_cases c33_7 : (70 : Int32) < p0
          · refine Wp.back (U' := (s₁.setTop (mkF m 41 #[.val (.int p0)] [(.int 0)]))) (fun t k => XS.icmpYes X0.here hx rfl (pc0 := 33) (pc' := 40) rfl (hb hby d20_33) rfl (tlt c33_7).2.2.1 (by decide) (by decide) (XT.iconstV X0.here hx rfl 0 (hb hby d20_40) (by decide) k)) ?_
            obtain ⟨fs, hr, hrun, hended, hW, hsame⟩ := X0.leave (v := (some (.int 0))) (fun h => by rw [hret] at h; cases h)
            refine Wp.done (retN X0 hx (t := .boolean) hret (by simp) (hb hby d20_41) hr) hrun hended ⟨_, _, rfl, ?_, ⟨_, rfl⟩, hW, hsame.mono (by decide) (by decide)⟩
            show QP _ h0 n0 _ s₁.heap _
            exact ⟨(by rw [f_ihd, if_pos c3_1, if_neg c15_2, if_pos c21_5, if_neg c27_6, if_pos c33_7]), N0, e0⟩
          · refine Wp.back (U' := (s₁.setTop (mkF m 41 #[.val (.int p0)] [(.int 1)]))) (fun t k => XS.icmpNo X0.here hx rfl (hb hby d20_33) rfl (flt c33_7).2.2.1 (XT.iconstV X0.here hx rfl 1 (hb hby d20_36) (by decide) (XS.goto X0.here hx rfl (pc0 := 37) (pc' := 41) rfl (hb hby d20_37) (by decide) (by decide) k))) ?_
            obtain ⟨fs, hr, hrun, hended, hW, hsame⟩ := X0.leave (v := (some (.int 1))) (fun h => by rw [hret] at h; cases h)
            refine Wp.done (retN X0 hx (t := .boolean) hret (by simp) (hb hby d20_41) hr) hrun hended ⟨_, _, rfl, ?_, ⟨_, rfl⟩, hW, hsame.mono (by decide) (by decide)⟩
            show QP _ h0 n0 _ s₁.heap _
            exact ⟨(by rw [f_ihd, if_pos c3_1, if_neg c15_2, if_pos c21_5, if_neg c27_6, if_neg c33_7]), N0, e0⟩
      · refine Wp.back (U' := (s₁.setTop (mkF m 41 #[.val (.int p0)] [(.int 1)]))) (fun t k => XS.icmpYes X0.here hx rfl (pc0 := 21) (pc' := 36) rfl (hb hby d20_21) rfl (flt c21_5).2.2.2 (by decide) (by decide) (XT.iconstV X0.here hx rfl 1 (hb hby d20_36) (by decide) (XS.goto X0.here hx rfl (pc0 := 37) (pc' := 41) rfl (hb hby d20_37) (by decide) (by decide) k))) ?_
        obtain ⟨fs, hr, hrun, hended, hW, hsame⟩ := X0.leave (v := (some (.int 1))) (fun h => by rw [hret] at h; cases h)
        refine Wp.done (retN X0 hx (t := .boolean) hret (by simp) (hb hby d20_41) hr) hrun hended ⟨_, _, rfl, ?_, ⟨_, rfl⟩, hW, hsame.mono (by decide) (by decide)⟩
        show QP _ h0 n0 _ s₁.heap _
        exact ⟨(by rw [f_ihd, if_pos c3_1, if_neg c15_2, if_neg c21_5]), N0, e0⟩
  · refine Wp.back (U' := (s₁.setTop (mkF m 9 #[.val (.int p0)] [(.int 57), (.int p0)]))) (fun t k => XS.icmpNo X0.here hx rfl (hb hby d20_3) rfl (flt c3_1).1 (XS.iloadN X0.here hx rfl (hb hby d20_6) rfl (XT.bipushV X0.here hx rfl 57 (hb hby d20_7) (by decide) k))) ?_
    by_cases c9_8 : (57 : Int32) < p0
    · refine Wp.back (U' := (s₁.setTop (mkF m 15 #[.val (.int p0)] [(.int 97), (.int p0)]))) (fun t k => XS.icmpNo X0.here hx rfl (hb hby d20_9) rfl (tlt c9_8).2.2.2 (XS.iloadN X0.here hx rfl (hb hby d20_12) rfl (XT.bipushV X0.here hx rfl 97 (hb hby d20_13) (by decide) k))) ?_
      by_cases c15_9 : p0 < (97 : Int32)
      · refine Wp.back (U' := (s₁.setTop (mkF m 27 #[.val (.int p0)] [(.int 65), (.int p0)]))) (fun t k => XS.icmpYes X0.here hx rfl (pc0 := 15) (pc' := 24) rfl (hb hby d20_15) rfl (tlt c15_9).1 (by decide) (by decide) (XS.iloadN X0.here hx rfl (hb hby d20_24) rfl (XT.bipushV X0.here hx rfl 65 (hb hby d20_25) (by decide) k))) ?_
        by_cases c27_10 : p0 < (65 : Int32)
        · refine Wp.back (U' := (s₁.setTop (mkF m 41 #[.val (.int p0)] [(.int 0)]))) (fun t k => XS.icmpYes X0.here hx rfl (pc0 := 27) (pc' := 40) rfl (hb hby d20_27) rfl (tlt c27_10).1 (by decide) (by decide) (XT.iconstV X0.here hx rfl 0 (hb hby d20_40) (by decide) k)) ?_
          obtain ⟨fs, hr, hrun, hended, hW, hsame⟩ := X0.leave (v := (some (.int 0))) (fun h => by rw [hret] at h; cases h)
          refine Wp.done (retN X0 hx (t := .boolean) hret (by simp) (hb hby d20_41) hr) hrun hended ⟨_, _, rfl, ?_, ⟨_, rfl⟩, hW, hsame.mono (by decide) (by decide)⟩
          show QP _ h0 n0 _ s₁.heap _
          exact ⟨(by rw [f_ihd, if_neg c3_1, if_pos c9_8, if_pos c15_9, if_pos c27_10]), N0, e0⟩
        · refine Wp.back (U' := (s₁.setTop (mkF m 33 #[.val (.int p0)] [(.int 70), (.int p0)]))) (fun t k => XS.icmpNo X0.here hx rfl (hb hby d20_27) rfl (flt c27_10).1 (XS.iloadN X0.here hx rfl (hb hby d20_30) rfl (XT.bipushV X0.here hx rfl 70 (hb hby d20_31) (by decide) k))) ?_
          by_cases c33_11 : (70 : Int32) < p0
          · refine Wp.back (U' := (s₁.setTop (mkF m 41 #[.val (.int p0)] [(.int 0)]))) (fun t k => XS.icmpYes X0.here hx rfl (pc0 := 33) (pc' := 40) rfl (hb hby d20_33) rfl (tlt c33_11).2.2.1 (by decide) (by decide) (XT.iconstV X0.here hx rfl 0 (hb hby d20_40) (by decide) k)) ?_
            obtain ⟨fs, hr, hrun, hended, hW, hsame⟩ := X0.leave (v := (some (.int 0))) (fun h => by rw [hret] at h; cases h)
            refine Wp.done (retN X0 hx (t := .boolean) hret (by simp) (hb hby d20_41) hr) hrun hended ⟨_, _, rfl, ?_, ⟨_, rfl⟩, hW, hsame.mono (by decide) (by decide)⟩
            show QP _ h0 n0 _ s₁.heap _
            exact ⟨(by rw [f_ihd, if_neg c3_1, if_pos c9_8, if_pos c15_9, if_neg c27_10, if_pos c33_11]), N0, e0⟩
          · refine Wp.back (U' := (s₁.setTop (mkF m 41 #[.val (.int p0)] [(.int 1)]))) (fun t k => XS.icmpNo X0.here hx rfl (hb hby d20_33) rfl (flt c33_11).2.2.1 (XT.iconstV X0.here hx rfl 1 (hb hby d20_36) (by decide) (XS.goto X0.here hx rfl (pc0 := 37) (pc' := 41) rfl (hb hby d20_37) (by decide) (by decide) k))) ?_
            obtain ⟨fs, hr, hrun, hended, hW, hsame⟩ := X0.leave (v := (some (.int 1))) (fun h => by rw [hret] at h; cases h)
            refine Wp.done (retN X0 hx (t := .boolean) hret (by simp) (hb hby d20_41) hr) hrun hended ⟨_, _, rfl, ?_, ⟨_, rfl⟩, hW, hsame.mono (by decide) (by decide)⟩
            show QP _ h0 n0 _ s₁.heap _
            exact ⟨(by rw [f_ihd, if_neg c3_1, if_pos c9_8, if_pos c15_9, if_neg c27_10, if_neg c33_11]), N0, e0⟩
      · refine Wp.back (U' := (s₁.setTop (mkF m 21 #[.val (.int p0)] [(.int 102), (.int p0)]))) (fun t k => XS.icmpNo X0.here hx rfl (hb hby d20_15) rfl (flt c15_9).1 (XS.iloadN X0.here hx rfl (hb hby d20_18) rfl (XT.bipushV X0.here hx rfl 102 (hb hby d20_19) (by decide) k))) ?_
        by_cases c21_12 : (102 : Int32) < p0
        · refine Wp.back (U' := (s₁.setTop (mkF m 27 #[.val (.int p0)] [(.int 65), (.int p0)]))) (fun t k => XS.icmpNo X0.here hx rfl (hb hby d20_21) rfl (tlt c21_12).2.2.2 (XS.iloadN X0.here hx rfl (hb hby d20_24) rfl (XT.bipushV X0.here hx rfl 65 (hb hby d20_25) (by decide) k))) ?_
          by_cases c27_13 : p0 < (65 : Int32)
          · refine Wp.back (U' := (s₁.setTop (mkF m 41 #[.val (.int p0)] [(.int 0)]))) (fun t k => XS.icmpYes X0.here hx rfl (pc0 := 27) (pc' := 40) rfl (hb hby d20_27) rfl (tlt c27_13).1 (by decide) (by decide) (XT.iconstV X0.here hx rfl 0 (hb hby d20_40) (by decide) k)) ?_
            obtain ⟨fs, hr, hrun, hended, hW, hsame⟩ := X0.leave (v := (some (.int 0))) (fun h => by rw [hret] at h; cases h)
            refine Wp.done (retN X0 hx (t := .boolean) hret (by simp) (hb hby d20_41) hr) hrun hended ⟨_, _, rfl, ?_, ⟨_, rfl⟩, hW, hsame.mono (by decide) (by decide)⟩
            show QP _ h0 n0 _ s₁.heap _
            exact ⟨(by rw [f_ihd, if_neg c3_1, if_pos c9_8, if_neg c15_9, if_pos c21_12, if_pos c27_13]), N0, e0⟩
          · refine Wp.back (U' := (s₁.setTop (mkF m 33 #[.val (.int p0)] [(.int 70), (.int p0)]))) (fun t k => XS.icmpNo X0.here hx rfl (hb hby d20_27) rfl (flt c27_13).1 (XS.iloadN X0.here hx rfl (hb hby d20_30) rfl (XT.bipushV X0.here hx rfl 70 (hb hby d20_31) (by decide) k))) ?_
            by_cases c33_14 : (70 : Int32) < p0
            · refine Wp.back (U' := (s₁.setTop (mkF m 41 #[.val (.int p0)] [(.int 0)]))) (fun t k => XS.icmpYes X0.here hx rfl (pc0 := 33) (pc' := 40) rfl (hb hby d20_33) rfl (tlt c33_14).2.2.1 (by decide) (by decide) (XT.iconstV X0.here hx rfl 0 (hb hby d20_40) (by decide) k)) ?_
              obtain ⟨fs, hr, hrun, hended, hW, hsame⟩ := X0.leave (v := (some (.int 0))) (fun h => by rw [hret] at h; cases h)
              refine Wp.done (retN X0 hx (t := .boolean) hret (by simp) (hb hby d20_41) hr) hrun hended ⟨_, _, rfl, ?_, ⟨_, rfl⟩, hW, hsame.mono (by decide) (by decide)⟩
              show QP _ h0 n0 _ s₁.heap _
              exact ⟨(by rw [f_ihd, if_neg c3_1, if_pos c9_8, if_neg c15_9, if_pos c21_12, if_neg c27_13, if_pos c33_14]), N0, e0⟩
            · refine Wp.back (U' := (s₁.setTop (mkF m 41 #[.val (.int p0)] [(.int 1)]))) (fun t k => XS.icmpNo X0.here hx rfl (hb hby d20_33) rfl (flt c33_14).2.2.1 (XT.iconstV X0.here hx rfl 1 (hb hby d20_36) (by decide) (XS.goto X0.here hx rfl (pc0 := 37) (pc' := 41) rfl (hb hby d20_37) (by decide) (by decide) k))) ?_
              obtain ⟨fs, hr, hrun, hended, hW, hsame⟩ := X0.leave (v := (some (.int 1))) (fun h => by rw [hret] at h; cases h)
              refine Wp.done (retN X0 hx (t := .boolean) hret (by simp) (hb hby d20_41) hr) hrun hended ⟨_, _, rfl, ?_, ⟨_, rfl⟩, hW, hsame.mono (by decide) (by decide)⟩
              show QP _ h0 n0 _ s₁.heap _
              exact ⟨(by rw [f_ihd, if_neg c3_1, if_pos c9_8, if_neg c15_9, if_pos c21_12, if_neg c27_13, if_neg c33_14]), N0, e0⟩
        · refine Wp.back (U' := (s₁.setTop (mkF m 41 #[.val (.int p0)] [(.int 1)]))) (fun t k => XS.icmpYes X0.here hx rfl (pc0 := 21) (pc' := 36) rfl (hb hby d20_21) rfl (flt c21_12).2.2.2 (by decide) (by decide) (XT.iconstV X0.here hx rfl 1 (hb hby d20_36) (by decide) (XS.goto X0.here hx rfl (pc0 := 37) (pc' := 41) rfl (hb hby d20_37) (by decide) (by decide) k))) ?_
          obtain ⟨fs, hr, hrun, hended, hW, hsame⟩ := X0.leave (v := (some (.int 1))) (fun h => by rw [hret] at h; cases h)
          refine Wp.done (retN X0 hx (t := .boolean) hret (by simp) (hb hby d20_41) hr) hrun hended ⟨_, _, rfl, ?_, ⟨_, rfl⟩, hW, hsame.mono (by decide) (by decide)⟩
          show QP _ h0 n0 _ s₁.heap _
          exact ⟨(by rw [f_ihd, if_neg c3_1, if_pos c9_8, if_neg c15_9, if_neg c21_12]), N0, e0⟩
    · refine Wp.back (U' := (s₁.setTop (mkF m 41 #[.val (.int p0)] [(.int 1)]))) (fun t k => XS.icmpYes X0.here hx rfl (pc0 := 9) (pc' := 36) rfl (hb hby d20_9) rfl (flt c9_8).2.2.2 (by decide) (by decide) (XT.iconstV X0.here hx rfl 1 (hb hby d20_36) (by decide) (XS.goto X0.here hx rfl (pc0 := 37) (pc' := 41) rfl (hb hby d20_37) (by decide) (by decide) k))) ?_
      obtain ⟨fs, hr, hrun, hended, hW, hsame⟩ := X0.leave (v := (some (.int 1))) (fun h => by rw [hret] at h; cases h)
      refine Wp.done (retN X0 hx (t := .boolean) hret (by simp) (hb hby d20_41) hr) hrun hended ⟨_, _, rfl, ?_, ⟨_, rfl⟩, hW, hsame.mono (by decide) (by decide)⟩
      show QP _ h0 n0 _ s₁.heap _
      exact ⟨(by rw [f_ihd, if_neg c3_1, if_neg c9_8]), N0, e0⟩
def Q_ck (Z : State) (p0 : Int32) (p1 : Int32) (fm : Value)  (h0 : Heap) (n0 : Nat) (v : Option Value) (h : Heap) (L : List Loc) : Prop := v = some (.int p0) ∧ Fr n0 L ∧ Keep h0 h []
theorem d19_0 : decode jdk_41_method_11_code 0 = .ok (.iload_n 0, 1) := by decide +kernel
theorem d19_1 : decode jdk_41_method_11_code 1 = .ok (.ifCond .lt 8, 3) := by decide +kernel
theorem d19_4 : decode jdk_41_method_11_code 4 = .ok (.iload_n 0, 1) := by decide +kernel
theorem d19_5 : decode jdk_41_method_11_code 5 = .ok (.iload_n 1, 1) := by decide +kernel
theorem d19_6 : decode jdk_41_method_11_code 6 = .ok (.if_icmp .lt 10, 3) := by decide +kernel
theorem d19_16 : decode jdk_41_method_11_code 16 = .ok (.iload_n 0, 1) := by decide +kernel
theorem d19_17 : decode jdk_41_method_11_code 17 = .ok (.ireturn, 1) := by decide +kernel
theorem pn19 : plainName "jdk/internal/util/Preconditions" = true := by first | (simp [plainName, overriddenIn]; done) | decide +kernel
theorem ef19_IIV (m : MethodId) (x0 : Int32) (x1 : Int32) (x2 : Value) (hx2 : x2.isRef = true) : entryFrame m #[(.int x0), (.int x1), x2] 3 = mkF m 0 #[.val (.int x0), .val (.int x1), .val x2] [] := by rcases ref_cases hx2 with rfl | ⟨y2, rfl⟩ <;> first | (simp [entryFrame, mkF, argsToLocals, Value.category]; done) | rfl
set_option maxRecDepth 65536 in
set_option maxHeartbeats 40000000 in
theorem rm_ck (l : Launch) (Z : State) (a0 : Array Value) (hw : ∀ d ∈ tables_1, d.before a0 Z = true) (ws : List Jvm.Cond) (p0 : Int32) (p1 : Int32) (fm : Value)  (h0 : Heap) (n0 : Nat) (Z0 : n0 ≤ h0.size) (isr_fm : fm.isRef = true) (hi0 : ¬ p0 < (0 : Int32)) (hi1 : p0 < p1) :
    Met l Z Y2 jdk_41_method_11_code 3 (some .int) ws ({ frames := 0, cells := 0, slots := 0, locals := 0 } : Room) #[(.int p0), (.int p1), fm] h0 (Q_ck Z p0 p1 fm h0 n0) := by
  refine own_body (plainFor_of_name pn19) ?_
  intro p e s m below meth c s₁ hx hby hret hlk hml hZ hown hnm X0 e0
  have N0 := Fr.nil n0
  refine Wp.back (U' := (s₁.setTop (mkF m 0 #[.val (.int p0), .val (.int p1), .val fm] []))) (fun t k => castTop (ef19_IIV m p0 p1 fm isr_fm) k) ?_
  refine Wp.back (U' := (s₁.setTop (mkF m 17 #[.val (.int p0), .val (.int p1), .val fm] [(.int p0)]))) (fun t k => XS.iloadN X0.here hx rfl (hb hby d19_0) rfl (XS.ifNo X0.here hx rfl (hb hby d19_1) rfl ((if0 _ _).trans (flt hi0).1) (XS.iloadN X0.here hx rfl (hb hby d19_4) rfl (XS.iloadN X0.here hx rfl (hb hby d19_5) rfl (XS.icmpYes X0.here hx rfl (pc0 := 6) (pc' := 16) rfl (hb hby d19_6) rfl (tlt hi1).1 (by decide) (by decide) (XS.iloadN X0.here hx rfl (hb hby d19_16) rfl k)))))) ?_
  obtain ⟨fs, hr, hrun, hended, hW, hsame⟩ := X0.leave (v := (some (.int p0))) (fun h => by rw [hret] at h; cases h)
  refine Wp.done (retI X0 hx hret (hb hby d19_17) hr) hrun hended ⟨_, _, rfl, ?_, ⟨_, rfl⟩, hW, hsame.mono (by decide) (by decide)⟩
  show Q_ck Z p0 p1 fm h0 n0 _ s₁.heap _
  rw [e0]
  exact ⟨rfl, N0, (Keep.refl h0 [])⟩
def Q_sck (Z : State) (p0 : Int32) (p1 : Int32) (fm : Value) (h0 : Heap) (n0 : Nat) (v : Option Value) (h : Heap) (L : List Loc) : Prop := v = none ∧ Fr n0 L ∧ Keep h0 h []
theorem d18_0 : decode jdk_42_method_155_code 0 = .ok (.iload_n 0, 1) := by decide +kernel
theorem d18_1 : decode jdk_42_method_155_code 1 = .ok (.iload_n 1, 1) := by decide +kernel
theorem d18_2 : decode jdk_42_method_155_code 2 = .ok (.getstatic 1053, 3) := by decide +kernel
theorem d18_5 : decode jdk_42_method_155_code 5 = .ok (.invokestatic 1059, 3) := by decide +kernel
theorem d18_8 : decode jdk_42_method_155_code 8 = .ok (.pop, 1) := by decide +kernel
theorem d18_9 : decode jdk_42_method_155_code 9 = .ok (.return_, 1) := by decide +kernel
theorem pd_0 : parseMethodDescriptor "(IILjava/util/function/BiFunction;)I" = some ⟨[.int, .int, (.object "java/util/function/BiFunction")], some .int⟩ := by decide +kernel
theorem pn18 : plainName "java/lang/String" = true := by first | (simp [plainName, overriddenIn]; done) | decide +kernel
theorem ef18_II (m : MethodId) (x0 : Int32) (x1 : Int32) : entryFrame m #[(.int x0), (.int x1)] 2 = mkF m 0 #[.val (.int x0), .val (.int x1)] [] := by first | (simp [entryFrame, mkF, argsToLocals, Value.category]; done) | rfl
set_option maxRecDepth 65536 in
set_option maxHeartbeats 40000000 in
theorem rm_sck (l : Launch) (Z : State) (a0 : Array Value) (hw : ∀ d ∈ tables_1, d.before a0 Z = true) (ws : List Jvm.Cond) (p0 : Int32) (p1 : Int32) (fm : Value) (h0 : Heap) (n0 : Nat) (Z0 : n0 ≤ h0.size) (H0 : Sta Z h0 "jdk/internal/util/Preconditions" "SIOOBE_FORMATTER" "Ljava/util/function/BiFunction;" fm) (isr_fm : fm.isRef = true) (hi0 : ¬ p0 < (0 : Int32)) (hi1 : p0 < p1) :
    Met l Z Y3 jdk_42_method_155_code 2 none ws ({ frames := 1, cells := 0, slots := 0, locals := 14 } : Room) #[(.int p0), (.int p1)] h0 (Q_sck Z p0 p1 fm h0 n0) := by
  refine own_body (plainFor_of_name pn18) ?_
  intro p e s m below meth c s₁ hx hby hret hlk hml hZ hown hnm X0 e0
  have N0 := Fr.nil n0
  refine Wp.back (U' := (s₁.setTop (mkF m 0 #[.val (.int p0), .val (.int p1)] []))) (fun t k => castTop (ef18_II m p0 p1) k) ?_
  refine Wp.back (U' := (s₁.setTop (mkF m 2 #[.val (.int p0), .val (.int p1)] [(.int p1), (.int p0)]))) (fun t k => XS.iloadN X0.here hx rfl (hb hby d18_0) rfl (XS.iloadN X0.here hx rfl (hb hby d18_1) rfl k)) ?_
  obtain ⟨T1, X1, e1, st1⟩ := getS2 X0 hx hZ hown (host := "") (Or.inl (ow hw 88 rfl)) Via.refl e0 H0 (g := (mkF m 2 #[.val (.int p0), .val (.int p1)] [(.int p1), (.int p0)])) rfl (hb hby d18_2)
  refine Wp.back (U' := (T1.setTop (mkF m 5 #[.val (.int p0), .val (.int p1)] [fm, (.int p1), (.int p0)]))) st1 ?_
  obtain ⟨_, _, ⟨T2, L2, k2, n2⟩, -, X2, ⟨Lc2, hQ2, l2, y2, z2⟩, st2⟩ := Jvm.LawKit.callS X1 hx (y := Y2) hown (mvT hZ (ow hw 90 rfl)) (mvT hZ (ow hw 91 rfl)) (mvT hZ (ow hw 89 rfl)) (mvT hZ (ow hw 92 rfl)) (by decide) (backOf (W := 0) (rm_ck l Z a0 hw [] p0 p1 fm  h0 n0 Z0 isr_fm hi0 hi1) hZ (ow hw 92 rfl) (ow hw 89 rfl) (by decide) (by decide)) (g := (mkF m 5 #[.val (.int p0), .val (.int p1)] [fm, (.int p1), (.int p0)])) rfl (by rw [hml]; rfl) (argsL := [(.int p0), (.int p1), fm]) (rest := []) (lenOf pd_0 rfl) rfl (Nat.le_of_eq rfl) (hb hby d18_5) (fun _ _ => ⟨rfl, e1, (by decide : 0 + 0 ≤ _), (by decide : 0 + 0 ≤ _)⟩)
  dsimp only [Pt.U, Pt.locs, Pt.cells, Pt.slots] at X2 l2 y2 z2 st2 hQ2
  subst l2 y2 z2
  obtain ⟨rfl, N2q, K2⟩ := hQ2
  have f3_0 := Nat.le_trans Z0 K2.1
  have f3_1 := Sta_keep0 H0 K2
  have f3_2 := (Keep.refl h0 []).trans K2 all0
  have N2 := Fr.app N0 N2q
  refine Wp.back (U' := (T2.setTop (mkF m 8 #[.val (.int p0), .val (.int p1)] [(.int p0)]))) st2 ?_
  refine Wp.back (U' := (T2.setTop (mkF m 9 #[.val (.int p0), .val (.int p1)] []))) (fun t k => XS.pop X2.here hx rfl (hb hby d18_8) rfl rfl k) ?_
  obtain ⟨fs, hr, hrun, hended, hW, hsame⟩ := X2.leave (v := none) (fun _ => rfl)
  refine Wp.done (X2.returnOut hx hret (hb hby d18_9) hr) hrun hended ⟨_, _, rfl, ?_, ⟨_, rfl⟩, hW, hsame.mono (by decide) (by decide)⟩
  show Q_sck Z p0 p1 fm h0 n0 _ T2.heap _
  exact ⟨rfl, N2, f3_2⟩
def Q_cft (Z : State) (p0 : Int32) (p1 : Int32) (p2 : Int32) (fm : Value)  (h0 : Heap) (n0 : Nat) (v : Option Value) (h : Heap) (L : List Loc) : Prop := v = some (.int p0) ∧ Fr n0 L ∧ Keep h0 h []
theorem d23_0 : decode jdk_41_method_12_code 0 = .ok (.iload_n 0, 1) := by decide +kernel
theorem d23_1 : decode jdk_41_method_12_code 1 = .ok (.ifCond .lt 13, 3) := by decide +kernel
theorem d23_4 : decode jdk_41_method_12_code 4 = .ok (.iload_n 0, 1) := by decide +kernel
theorem d23_5 : decode jdk_41_method_12_code 5 = .ok (.iload_n 1, 1) := by decide +kernel
theorem d23_6 : decode jdk_41_method_12_code 6 = .ok (.if_icmp .gt 8, 3) := by decide +kernel
theorem d23_9 : decode jdk_41_method_12_code 9 = .ok (.iload_n 1, 1) := by decide +kernel
theorem d23_10 : decode jdk_41_method_12_code 10 = .ok (.iload_n 2, 1) := by decide +kernel
theorem d23_11 : decode jdk_41_method_12_code 11 = .ok (.if_icmp .le 11, 3) := by decide +kernel
theorem d23_22 : decode jdk_41_method_12_code 22 = .ok (.iload_n 0, 1) := by decide +kernel
theorem d23_23 : decode jdk_41_method_12_code 23 = .ok (.ireturn, 1) := by decide +kernel
theorem pn23 : plainName "jdk/internal/util/Preconditions" = true := by first | (simp [plainName, overriddenIn]; done) | decide +kernel
theorem ef23_IIIV (m : MethodId) (x0 : Int32) (x1 : Int32) (x2 : Int32) (x3 : Value) (hx3 : x3.isRef = true) : entryFrame m #[(.int x0), (.int x1), (.int x2), x3] 4 = mkF m 0 #[.val (.int x0), .val (.int x1), .val (.int x2), .val x3] [] := by rcases ref_cases hx3 with rfl | ⟨y3, rfl⟩ <;> first | (simp [entryFrame, mkF, argsToLocals, Value.category]; done) | rfl
set_option maxRecDepth 65536 in
set_option maxHeartbeats 40000000 in
theorem rm_cft (l : Launch) (Z : State) (a0 : Array Value) (hw : ∀ d ∈ tables_1, d.before a0 Z = true) (ws : List Jvm.Cond) (p0 : Int32) (p1 : Int32) (p2 : Int32) (fm : Value)  (h0 : Heap) (n0 : Nat) (Z0 : n0 ≤ h0.size) (isr_fm : fm.isRef = true) (hi0 : ¬ p0 < (0 : Int32)) (hi1 : ¬ p1 < p0) (hi2 : ¬ p2 < p1) :
    Met l Z Y4 jdk_41_method_12_code 4 (some .int) ws ({ frames := 0, cells := 0, slots := 0, locals := 0 } : Room) #[(.int p0), (.int p1), (.int p2), fm] h0 (Q_cft Z p0 p1 p2 fm h0 n0) := by
  refine own_body (plainFor_of_name pn23) ?_
  intro p e s m below meth c s₁ hx hby hret hlk hml hZ hown hnm X0 e0
  have N0 := Fr.nil n0
  refine Wp.back (U' := (s₁.setTop (mkF m 0 #[.val (.int p0), .val (.int p1), .val (.int p2), .val fm] []))) (fun t k => castTop (ef23_IIIV m p0 p1 p2 fm isr_fm) k) ?_
  refine Wp.back (U' := (s₁.setTop (mkF m 23 #[.val (.int p0), .val (.int p1), .val (.int p2), .val fm] [(.int p0)]))) (fun t k => XS.iloadN X0.here hx rfl (hb hby d23_0) rfl (XS.ifNo X0.here hx rfl (hb hby d23_1) rfl ((if0 _ _).trans (flt hi0).1) (XS.iloadN X0.here hx rfl (hb hby d23_4) rfl (XS.iloadN X0.here hx rfl (hb hby d23_5) rfl (XS.icmpNo X0.here hx rfl (hb hby d23_6) rfl (flt hi1).2.2.1 (XS.iloadN X0.here hx rfl (hb hby d23_9) rfl (XS.iloadN X0.here hx rfl (hb hby d23_10) rfl (XS.icmpYes X0.here hx rfl (pc0 := 11) (pc' := 22) rfl (hb hby d23_11) rfl (flt hi2).2.2.2 (by decide) (by decide) (XS.iloadN X0.here hx rfl (hb hby d23_22) rfl k))))))))) ?_
  obtain ⟨fs, hr, hrun, hended, hW, hsame⟩ := X0.leave (v := (some (.int p0))) (fun h => by rw [hret] at h; cases h)
  refine Wp.done (retI X0 hx hret (hb hby d23_23) hr) hrun hended ⟨_, _, rfl, ?_, ⟨_, rfl⟩, hW, hsame.mono (by decide) (by decide)⟩
  show Q_cft Z p0 p1 p2 fm h0 n0 _ s₁.heap _
  rw [e0]
  exact ⟨rfl, N0, (Keep.refl h0 [])⟩
def Q_cbe (Z : State) (p0 : Int32) (p1 : Int32) (p2 : Int32) (fm : Value) (h0 : Heap) (n0 : Nat) (v : Option Value) (h : Heap) (L : List Loc) : Prop := v = none ∧ Fr n0 L ∧ Keep h0 h []
theorem d22_0 : decode jdk_42_method_158_code 0 = .ok (.iload_n 0, 1) := by decide +kernel
theorem d22_1 : decode jdk_42_method_158_code 1 = .ok (.iload_n 1, 1) := by decide +kernel
theorem d22_2 : decode jdk_42_method_158_code 2 = .ok (.iload_n 2, 1) := by decide +kernel
theorem d22_3 : decode jdk_42_method_158_code 3 = .ok (.getstatic 1053, 3) := by decide +kernel
theorem d22_6 : decode jdk_42_method_158_code 6 = .ok (.invokestatic 1062, 3) := by decide +kernel
theorem d22_9 : decode jdk_42_method_158_code 9 = .ok (.pop, 1) := by decide +kernel
theorem d22_10 : decode jdk_42_method_158_code 10 = .ok (.return_, 1) := by decide +kernel
theorem pd_1 : parseMethodDescriptor "(IIILjava/util/function/BiFunction;)I" = some ⟨[.int, .int, .int, (.object "java/util/function/BiFunction")], some .int⟩ := by decide +kernel
theorem pn22 : plainName "java/lang/String" = true := by first | (simp [plainName, overriddenIn]; done) | decide +kernel
theorem ef22_III (m : MethodId) (x0 : Int32) (x1 : Int32) (x2 : Int32) : entryFrame m #[(.int x0), (.int x1), (.int x2)] 3 = mkF m 0 #[.val (.int x0), .val (.int x1), .val (.int x2)] [] := by first | (simp [entryFrame, mkF, argsToLocals, Value.category]; done) | rfl
set_option maxRecDepth 65536 in
set_option maxHeartbeats 40000000 in
theorem rm_cbe (l : Launch) (Z : State) (a0 : Array Value) (hw : ∀ d ∈ tables_1, d.before a0 Z = true) (ws : List Jvm.Cond) (p0 : Int32) (p1 : Int32) (p2 : Int32) (fm : Value) (h0 : Heap) (n0 : Nat) (Z0 : n0 ≤ h0.size) (H0 : Sta Z h0 "jdk/internal/util/Preconditions" "SIOOBE_FORMATTER" "Ljava/util/function/BiFunction;" fm) (isr_fm : fm.isRef = true) (hi0 : ¬ p0 < (0 : Int32)) (hi1 : ¬ p1 < p0) (hi2 : ¬ p2 < p1) :
    Met l Z Y5 jdk_42_method_158_code 3 none ws ({ frames := 1, cells := 0, slots := 0, locals := 15 } : Room) #[(.int p0), (.int p1), (.int p2)] h0 (Q_cbe Z p0 p1 p2 fm h0 n0) := by
  refine own_body (plainFor_of_name pn22) ?_
  intro p e s m below meth c s₁ hx hby hret hlk hml hZ hown hnm X0 e0
  have N0 := Fr.nil n0
  refine Wp.back (U' := (s₁.setTop (mkF m 0 #[.val (.int p0), .val (.int p1), .val (.int p2)] []))) (fun t k => castTop (ef22_III m p0 p1 p2) k) ?_
  refine Wp.back (U' := (s₁.setTop (mkF m 3 #[.val (.int p0), .val (.int p1), .val (.int p2)] [(.int p2), (.int p1), (.int p0)]))) (fun t k => XS.iloadN X0.here hx rfl (hb hby d22_0) rfl (XS.iloadN X0.here hx rfl (hb hby d22_1) rfl (XS.iloadN X0.here hx rfl (hb hby d22_2) rfl k))) ?_
  obtain ⟨T1, X1, e1, st1⟩ := getS2 X0 hx hZ hown (host := "") (Or.inl (ow hw 88 rfl)) Via.refl e0 H0 (g := (mkF m 3 #[.val (.int p0), .val (.int p1), .val (.int p2)] [(.int p2), (.int p1), (.int p0)])) rfl (hb hby d22_3)
  refine Wp.back (U' := (T1.setTop (mkF m 6 #[.val (.int p0), .val (.int p1), .val (.int p2)] [fm, (.int p2), (.int p1), (.int p0)]))) st1 ?_
  obtain ⟨_, _, ⟨T2, L2, k2, n2⟩, -, X2, ⟨Lc2, hQ2, l2, y2, z2⟩, st2⟩ := Jvm.LawKit.callS X1 hx (y := Y4) hown (mvT hZ (ow hw 104 rfl)) (mvT hZ (ow hw 105 rfl)) (mvT hZ (ow hw 89 rfl)) (mvT hZ (ow hw 106 rfl)) (by decide) (backOf (W := 0) (rm_cft l Z a0 hw [] p0 p1 p2 fm  h0 n0 Z0 isr_fm hi0 hi1 hi2) hZ (ow hw 106 rfl) (ow hw 89 rfl) (by decide) (by decide)) (g := (mkF m 6 #[.val (.int p0), .val (.int p1), .val (.int p2)] [fm, (.int p2), (.int p1), (.int p0)])) rfl (by rw [hml]; rfl) (argsL := [(.int p0), (.int p1), (.int p2), fm]) (rest := []) (lenOf pd_1 rfl) rfl (Nat.le_of_eq rfl) (hb hby d22_6) (fun _ _ => ⟨rfl, e1, (by decide : 0 + 0 ≤ _), (by decide : 0 + 0 ≤ _)⟩)
  dsimp only [Pt.U, Pt.locs, Pt.cells, Pt.slots] at X2 l2 y2 z2 st2 hQ2
  subst l2 y2 z2
  obtain ⟨rfl, N2q, K2⟩ := hQ2
  have f3_0 := Nat.le_trans Z0 K2.1
  have f3_1 := Sta_keep0 H0 K2
  have f3_2 := (Keep.refl h0 []).trans K2 all0
  have N2 := Fr.app N0 N2q
  refine Wp.back (U' := (T2.setTop (mkF m 9 #[.val (.int p0), .val (.int p1), .val (.int p2)] [(.int p0)]))) st2 ?_
  refine Wp.back (U' := (T2.setTop (mkF m 10 #[.val (.int p0), .val (.int p1), .val (.int p2)] []))) (fun t k => XS.pop X2.here hx rfl (hb hby d22_9) rfl rfl k) ?_
  obtain ⟨fs, hr, hrun, hended, hW, hsame⟩ := X2.leave (v := none) (fun _ => rfl)
  refine Wp.done (X2.returnOut hx hret (hb hby d22_10) hr) hrun hended ⟨_, _, rfl, ?_, ⟨_, rfl⟩, hW, hsame.mono (by decide) (by decide)⟩
  show Q_cbe Z p0 p1 p2 fm h0 n0 _ T2.heap _
  exact ⟨rfl, N2, f3_2⟩
def Q_cl (Z : State) (p0 : Int32) (p1 : Int32)  (h0 : Heap) (n0 : Nat) (v : Option Value) (h : Heap) (L : List Loc) : Prop := v = none ∧ Fr n0 L ∧ Keep h0 h []
theorem d29_0 : decode jdk_65_method_131_code 0 = .ok (.iload_n 1, 1) := by decide +kernel
theorem d29_1 : decode jdk_65_method_131_code 1 = .ok (.iload_n 0, 1) := by decide +kernel
theorem d29_2 : decode jdk_65_method_131_code 2 = .ok (.if_icmp .ge 35, 3) := by decide +kernel
theorem d29_37 : decode jdk_65_method_131_code 37 = .ok (.return_, 1) := by decide +kernel
theorem pn29 : plainName "java/util/Arrays" = true := by first | (simp [plainName, overriddenIn]; done) | decide +kernel
theorem ef29_II (m : MethodId) (x0 : Int32) (x1 : Int32) : entryFrame m #[(.int x0), (.int x1)] 2 = mkF m 0 #[.val (.int x0), .val (.int x1)] [] := by first | (simp [entryFrame, mkF, argsToLocals, Value.category]; done) | rfl
set_option maxRecDepth 65536 in
set_option maxHeartbeats 40000000 in
theorem rm_cl (l : Launch) (Z : State) (a0 : Array Value) (hw : ∀ d ∈ tables_1, d.before a0 Z = true) (ws : List Jvm.Cond) (p0 : Int32) (p1 : Int32)  (h0 : Heap) (n0 : Nat) (Z0 : n0 ≤ h0.size) (hi1 : ¬ p1 < p0) :
    Met l Z Y6 jdk_65_method_131_code 2 none ws ({ frames := 0, cells := 0, slots := 0, locals := 0 } : Room) #[(.int p0), (.int p1)] h0 (Q_cl Z p0 p1 h0 n0) := by
  refine own_body (plainFor_of_name pn29) ?_
  intro p e s m below meth c s₁ hx hby hret hlk hml hZ hown hnm X0 e0
  have N0 := Fr.nil n0
  refine Wp.back (U' := (s₁.setTop (mkF m 0 #[.val (.int p0), .val (.int p1)] []))) (fun t k => castTop (ef29_II m p0 p1) k) ?_
  refine Wp.back (U' := (s₁.setTop (mkF m 37 #[.val (.int p0), .val (.int p1)] []))) (fun t k => XS.iloadN X0.here hx rfl (hb hby d29_0) rfl (XS.iloadN X0.here hx rfl (hb hby d29_1) rfl (XS.icmpYes X0.here hx rfl (pc0 := 2) (pc' := 37) rfl (hb hby d29_2) rfl (flt hi1).2.1 (by decide) (by decide) k))) ?_
  obtain ⟨fs, hr, hrun, hended, hW, hsame⟩ := X0.leave (v := none) (fun _ => rfl)
  refine Wp.done (X0.returnOut hx hret (hb hby d29_37) hr) hrun hended ⟨_, _, rfl, ?_, ⟨_, rfl⟩, hW, hsame.mono (by decide) (by decide)⟩
  show Q_cl Z p0 p1 h0 n0 _ s₁.heap _
  rw [e0]
  exact ⟨rfl, N0, (Keep.refl h0 [])⟩
def Q_cod (Z : State) (ar : Addr) (cs : Int32) (h0 : Heap) (n0 : Nat) (v : Option Value) (h : Heap) (L : List Loc) : Prop := v = some (.int 0) ∧ Fr n0 L ∧ Keep h0 h []
theorem d12_0 : decode jdk_42_method_152_code 0 = .ok (.getstatic 38, 3) := by decide +kernel
theorem d12_3 : decode jdk_42_method_152_code 3 = .ok (.ifCond .eq 10, 3) := by decide +kernel
theorem d12_6 : decode jdk_42_method_152_code 6 = .ok (.aload_n 0, 1) := by decide +kernel
theorem d12_7 : decode jdk_42_method_152_code 7 = .ok (.getfield 15, 3) := by decide +kernel
theorem d12_10 : decode jdk_42_method_152_code 10 = .ok (.goto 4, 3) := by decide +kernel
theorem d12_14 : decode jdk_42_method_152_code 14 = .ok (.ireturn, 1) := by decide +kernel
theorem pn12 : plainName "java/lang/String" = true := by first | (simp [plainName, overriddenIn]; done) | decide +kernel
theorem ef12_R (m : MethodId) (x0 : Addr) : entryFrame m #[(.ref x0)] 1 = mkF m 0 #[.val (.ref x0)] [] := by first | (simp [entryFrame, mkF, argsToLocals, Value.category]; done) | rfl
set_option maxRecDepth 65536 in
set_option maxHeartbeats 40000000 in
theorem rm_cod (l : Launch) (Z : State) (a0 : Array Value) (hw : ∀ d ∈ tables_1, d.before a0 Z = true) (ws : List Jvm.Cond) (ar : Addr) (cs : Int32) (h0 : Heap) (n0 : Nat) (Z0 : n0 ≤ h0.size) (H0 : Fld Z h0 ar "java/lang/String" "coder" "B" (.int 0)) (H1 : Sta Z h0 "java/lang/String" "COMPACT_STRINGS" "Z" (.int cs)) (hcs : ¬ cs = (0 : Int32)) :
    Met l Z Y7 jdk_42_method_152_code 1 (some .byte) ws ({ frames := 0, cells := 0, slots := 0, locals := 0 } : Room) #[(.ref ar)] h0 (Q_cod Z ar cs h0 n0) := by
  refine own_body (plainFor_of_name pn12) ?_
  intro p e s m below meth c s₁ hx hby hret hlk hml hZ hown hnm X0 e0
  have N0 := Fr.nil n0
  refine Wp.back (U' := (s₁.setTop (mkF m 0 #[.val (.ref ar)] []))) (fun t k => castTop (ef12_R m ar) k) ?_
  obtain ⟨T1, X1, e1, st1⟩ := getS2 X0 hx hZ hown (host := "") (Or.inl (ow hw 22 rfl)) Via.refl e0 H1 (g := (mkF m 0 #[.val (.ref ar)] [])) rfl (hb hby d12_0)
  refine Wp.back (U' := (T1.setTop (mkF m 3 #[.val (.ref ar)] [(.int cs)]))) st1 ?_
  refine Wp.back (U' := (T1.setTop (mkF m 7 #[.val (.ref ar)] [(.ref ar)]))) (fun t k => XS.ifNo X1.here hx rfl (hb hby d12_3) rfl ((if0 _ _).trans (feq hcs).1) (XS.aloadN X1.here hx rfl (hb hby d12_6) rfl rfl k)) ?_
  obtain ⟨T2, X2, e2, st2⟩ := getF X1 hx hZ hown (host := "") (Or.inl (ow hw 34 rfl)) Via.refl e1 H0 (g := (mkF m 7 #[.val (.ref ar)] [(.ref ar)])) rfl rfl (hb hby d12_7)
  refine Wp.back (U' := (T2.setTop (mkF m 10 #[.val (.ref ar)] [(.int 0)]))) st2 ?_
  refine Wp.back (U' := (T2.setTop (mkF m 14 #[.val (.ref ar)] [(.int 0)]))) (fun t k => XS.goto X2.here hx rfl (pc0 := 10) (pc' := 14) rfl (hb hby d12_10) (by decide) (by decide) k) ?_
  obtain ⟨fs, hr, hrun, hended, hW, hsame⟩ := X2.leave (v := (some (.int 0))) (fun h => by rw [hret] at h; cases h)
  refine Wp.done (retN X2 hx (t := .byte) hret (by simp) (hb hby d12_14) hr) hrun hended ⟨_, _, rfl, ?_, ⟨_, rfl⟩, hW, hsame.mono (by decide) (by decide)⟩
  show Q_cod Z ar cs h0 n0 _ T2.heap _
  rw [e2]
  exact ⟨rfl, N0, (Keep.refl h0 [])⟩
def Q_isl (Z : State) (ar : Addr) (cs : Int32) (h0 : Heap) (n0 : Nat) (v : Option Value) (h : Heap) (L : List Loc) : Prop := v = some (.int 1) ∧ Fr n0 L ∧ Keep h0 h []
theorem d16_0 : decode jdk_42_method_154_code 0 = .ok (.getstatic 38, 3) := by decide +kernel
theorem d16_3 : decode jdk_42_method_154_code 3 = .ok (.ifCond .eq 14, 3) := by decide +kernel
theorem d16_6 : decode jdk_42_method_154_code 6 = .ok (.aload_n 0, 1) := by decide +kernel
theorem d16_7 : decode jdk_42_method_154_code 7 = .ok (.getfield 15, 3) := by decide +kernel
theorem d16_10 : decode jdk_42_method_154_code 10 = .ok (.ifCond .ne 7, 3) := by decide +kernel
theorem d16_13 : decode jdk_42_method_154_code 13 = .ok (.iconst 1, 1) := by decide +kernel
theorem d16_14 : decode jdk_42_method_154_code 14 = .ok (.goto 4, 3) := by decide +kernel
theorem d16_18 : decode jdk_42_method_154_code 18 = .ok (.ireturn, 1) := by decide +kernel
theorem pn16 : plainName "java/lang/String" = true := by first | (simp [plainName, overriddenIn]; done) | decide +kernel
theorem ef16_R (m : MethodId) (x0 : Addr) : entryFrame m #[(.ref x0)] 1 = mkF m 0 #[.val (.ref x0)] [] := by first | (simp [entryFrame, mkF, argsToLocals, Value.category]; done) | rfl
set_option maxRecDepth 65536 in
set_option maxHeartbeats 40000000 in
theorem rm_isl (l : Launch) (Z : State) (a0 : Array Value) (hw : ∀ d ∈ tables_1, d.before a0 Z = true) (ws : List Jvm.Cond) (ar : Addr) (cs : Int32) (h0 : Heap) (n0 : Nat) (Z0 : n0 ≤ h0.size) (H0 : Fld Z h0 ar "java/lang/String" "coder" "B" (.int 0)) (H1 : Sta Z h0 "java/lang/String" "COMPACT_STRINGS" "Z" (.int cs)) (hcs : ¬ cs = (0 : Int32)) :
    Met l Z Y8 jdk_42_method_154_code 1 (some .boolean) ws ({ frames := 0, cells := 0, slots := 0, locals := 0 } : Room) #[(.ref ar)] h0 (Q_isl Z ar cs h0 n0) := by
  refine own_body (plainFor_of_name pn16) ?_
  intro p e s m below meth c s₁ hx hby hret hlk hml hZ hown hnm X0 e0
  have N0 := Fr.nil n0
  refine Wp.back (U' := (s₁.setTop (mkF m 0 #[.val (.ref ar)] []))) (fun t k => castTop (ef16_R m ar) k) ?_
  obtain ⟨T1, X1, e1, st1⟩ := getS2 X0 hx hZ hown (host := "") (Or.inl (ow hw 22 rfl)) Via.refl e0 H1 (g := (mkF m 0 #[.val (.ref ar)] [])) rfl (hb hby d16_0)
  refine Wp.back (U' := (T1.setTop (mkF m 3 #[.val (.ref ar)] [(.int cs)]))) st1 ?_
  refine Wp.back (U' := (T1.setTop (mkF m 7 #[.val (.ref ar)] [(.ref ar)]))) (fun t k => XS.ifNo X1.here hx rfl (hb hby d16_3) rfl ((if0 _ _).trans (feq hcs).1) (XS.aloadN X1.here hx rfl (hb hby d16_6) rfl rfl k)) ?_
  obtain ⟨T2, X2, e2, st2⟩ := getF X1 hx hZ hown (host := "") (Or.inl (ow hw 34 rfl)) Via.refl e1 H0 (g := (mkF m 7 #[.val (.ref ar)] [(.ref ar)])) rfl rfl (hb hby d16_7)
  refine Wp.back (U' := (T2.setTop (mkF m 10 #[.val (.ref ar)] [(.int 0)]))) st2 ?_
  refine Wp.back (U' := (T2.setTop (mkF m 18 #[.val (.ref ar)] [(.int 1)]))) (fun t k => XS.ifNo X2.here hx rfl (hb hby d16_10) rfl ((if0 _ _).trans (teq (by decide)).2) (XT.iconstV X2.here hx rfl 1 (hb hby d16_13) (by decide) (XS.goto X2.here hx rfl (pc0 := 14) (pc' := 18) rfl (hb hby d16_14) (by decide) (by decide) k))) ?_
  obtain ⟨fs, hr, hrun, hended, hW, hsame⟩ := X2.leave (v := (some (.int 1))) (fun h => by rw [hret] at h; cases h)
  refine Wp.done (retN X2 hx (t := .boolean) hret (by simp) (hb hby d16_18) hr) hrun hended ⟨_, _, rfl, ?_, ⟨_, rfl⟩, hW, hsame.mono (by decide) (by decide)⟩
  show Q_isl Z ar cs h0 n0 _ T2.heap _
  rw [e2]
  exact ⟨rfl, N0, (Keep.refl h0 [])⟩
theorem own_sh0 (n : Int32) : (n >>> ((0 : Int32) &&& 31)) = n := by
  have e : ((0 : Int32) &&& 31) = 0 := by decide
  rw [e]; simp
theorem own_nn (n : Int32) : (n - n) = (0 : Int32) := by simp
def Q_len (Z : State) (ar : Addr) (a1 : Addr) (k1 : ClassId) (n1 : Int32) (vs1 : List Value) (dv1 : Value) (cs : Int32) (h0 : Heap) (n0 : Nat) (v : Option Value) (h : Heap) (L : List Loc) : Prop := v = some (.int n1) ∧ Fr n0 L ∧ Keep h0 h []
theorem d11_0 : decode jdk_42_method_54_code 0 = .ok (.aload_n 0, 1) := by decide +kernel
theorem d11_1 : decode jdk_42_method_54_code 1 = .ok (.getfield 9, 3) := by decide +kernel
theorem d11_4 : decode jdk_42_method_54_code 4 = .ok (.arraylength, 1) := by decide +kernel
theorem d11_5 : decode jdk_42_method_54_code 5 = .ok (.aload_n 0, 1) := by decide +kernel
theorem d11_6 : decode jdk_42_method_54_code 6 = .ok (.invokevirtual 335, 3) := by decide +kernel
theorem d11_9 : decode jdk_42_method_54_code 9 = .ok (.ishr, 1) := by decide +kernel
theorem d11_10 : decode jdk_42_method_54_code 10 = .ok (.ireturn, 1) := by decide +kernel
theorem pd_2 : parseMethodDescriptor "()B" = some ⟨[], some .byte⟩ := by decide +kernel
theorem pn11 : plainName "java/lang/String" = true := by first | (simp [plainName, overriddenIn]; done) | decide +kernel
theorem ef11_R (m : MethodId) (x0 : Addr) : entryFrame m #[(.ref x0)] 1 = mkF m 0 #[.val (.ref x0)] [] := by first | (simp [entryFrame, mkF, argsToLocals, Value.category]; done) | rfl
set_option maxRecDepth 65536 in
set_option maxHeartbeats 40000000 in
theorem rm_len (l : Launch) (Z : State) (a0 : Array Value) (hw : ∀ d ∈ tables_1, d.before a0 Z = true) (ws : List Jvm.Cond) (ar : Addr) (a1 : Addr) (k1 : ClassId) (n1 : Int32) (vs1 : List Value) (dv1 : Value) (cs : Int32) (h0 : Heap) (n0 : Nat) (Z0 : n0 ≤ h0.size) (H0 : Exa Z h0 ar "java/lang/String") (H1 : Fld Z h0 ar "java/lang/String" "value" "[B" (.ref a1)) (H2 : Fld Z h0 ar "java/lang/String" "coder" "B" (.int 0)) (H3 : Arv Z h0 a1 k1 .byte n1 vs1 dv1) (H4 : Sta Z h0 "java/lang/String" "COMPACT_STRINGS" "Z" (.int cs)) (hcs : ¬ cs = (0 : Int32)) :
    Met l Z Y9 jdk_42_method_54_code 1 (some .int) ws ({ frames := 1, cells := 0, slots := 0, locals := 13 } : Room) #[(.ref ar)] h0 (Q_len Z ar a1 k1 n1 vs1 dv1 cs h0 n0) := by
  refine own_body (plainFor_of_name pn11) ?_
  intro p e s m below meth c s₁ hx hby hret hlk hml hZ hown hnm X0 e0
  have N0 := Fr.nil n0
  refine Wp.back (U' := (s₁.setTop (mkF m 0 #[.val (.ref ar)] []))) (fun t k => castTop (ef11_R m ar) k) ?_
  refine Wp.back (U' := (s₁.setTop (mkF m 1 #[.val (.ref ar)] [(.ref ar)]))) (fun t k => XS.aloadN X0.here hx rfl (hb hby d11_0) rfl rfl k) ?_
  obtain ⟨T1, X1, e1, st1⟩ := getF X0 hx hZ hown (host := "") (Or.inl (ow hw 36 rfl)) Via.refl e0 H1 (g := (mkF m 1 #[.val (.ref ar)] [(.ref ar)])) rfl rfl (hb hby d11_1)
  refine Wp.back (U' := (T1.setTop (mkF m 4 #[.val (.ref ar)] [(.ref a1)]))) st1 ?_
  have vq2 := H3
  obtain ⟨cl2, Ar2, -, qs2, qn2, -, -⟩ := vq2
  refine Wp.back (U' := (T1.setTop (mkF m 5 #[.val (.ref ar)] [(.int n1)]))) (fun t k => X1.arraylength hx (by rw [e1]; exact Ar2.1) (State.isArrayOf_alike hZ.alike Ar2.2.1) (g := (mkF m 4 #[.val (.ref ar)] [(.ref a1)])) rfl rfl (hb hby d11_4) t (by rw [len_of qs2 qn2]; exact k)) ?_
  refine Wp.back (U' := (T1.setTop (mkF m 6 #[.val (.ref ar)] [(.ref ar), (.int n1)]))) (fun t k => XS.aloadN X1.here hx rfl (hb hby d11_5) rfl rfl k) ?_
  obtain ⟨cq3, kq3, q3a, q3b, q3c⟩ := isOf hZ e1 H0
  obtain ⟨_, _, ⟨T3, L3, k3, n3⟩, -, X3, ⟨Lc3, hQ3, l3, y3, z3⟩, st3⟩ := X1.virtualBack hx (y := Y7) (z := Y7) hown (mvT hZ (ow hw 56 rfl)) (mvT hZ (ow hw 57 rfl)) (notFace_of_selects (args := #[]) (mvT hZ (ow hw 59 rfl))) (mvT hZ (ow hw 59 rfl)) (mvT hZ (ow hw 58 rfl)) (by decide) (backOf (W := 1) (rm_cod l Z a0 hw [] ar cs h0 n0 Z0 H2 H4 hcs) hZ (ow hw 60 rfl) (ow hw 11 rfl) (by decide) (by decide)) q3a q3c (g := (mkF m 6 #[.val (.ref ar)] [(.ref ar), (.int n1)])) rfl (by rw [hml]; rfl) (Steps.refl _) (argsL := []) (rest := [(.int n1)]) (lenOf pd_2 rfl) rfl (Nat.le_of_eq rfl) (hb hby d11_6) (fun _ _ => ⟨rfl, e1, (by decide : 0 + 0 ≤ _), (by decide : 0 + 0 ≤ _)⟩)
  dsimp only [Pt.U, Pt.locs, Pt.cells, Pt.slots] at X3 l3 y3 z3 st3 hQ3
  subst l3 y3 z3
  obtain ⟨rfl, N3q, K3⟩ := hQ3
  have f4_0 := Nat.le_trans Z0 K3.1
  have f4_1 := H0.keep K3
  have f4_2 := H1.keep K3 nin0
  have f4_3 := H2.keep K3 nin0
  have f4_4 := H3.keep K3 nin0
  have f4_5 := Sta_keep0 H4 K3
  have f4_6 := (Keep.refl h0 []).trans K3 all0
  have N3 := Fr.app N0 N3q
  refine Wp.back (U' := (T3.setTop (mkF m 9 #[.val (.ref ar)] [(.int 0), (.int n1)]))) (fun t k => st3.trans k) ?_
  refine Wp.back (U' := (T3.setTop (mkF m 10 #[.val (.ref ar)] [(.int (n1 >>> ((0 : Int32) &&& 31)))]))) (fun t k => XS.ishr X3.here hx rfl (hb hby d11_9) rfl k) ?_
  rw [own_sh0 n1]
  obtain ⟨fs, hr, hrun, hended, hW, hsame⟩ := X3.leave (v := (some (.int n1))) (fun h => by rw [hret] at h; cases h)
  refine Wp.done (retI X3 hx hret (hb hby d11_10) hr) hrun hended ⟨_, _, rfl, ?_, ⟨_, rfl⟩, hW, hsame.mono (by decide) (by decide)⟩
  show Q_len Z ar a1 k1 n1 vs1 dv1 cs h0 n0 _ T3.heap _
  exact ⟨rfl, N3, f4_6⟩
def Q_lch (Z : State) (a1 : Addr) (p1 : Int32) (k1 : ClassId) (n1 : Int32) (vs1 : List Value) (dv1 : Value) (vx : Int32) (fm : Value) (h0 : Heap) (n0 : Nat) (v : Option Value) (h : Heap) (L : List Loc) : Prop := v = some (.int (nar .char ((vx &&& (255 : Int32))).toUInt32.toUInt16.toUInt32.toInt32)) ∧ Fr n0 L ∧ Keep h0 h []
theorem d17_0 : decode jdk_43_method_2_code 0 = .ok (.iload_n 1, 1) := by decide +kernel
theorem d17_1 : decode jdk_43_method_2_code 1 = .ok (.aload_n 0, 1) := by decide +kernel
theorem d17_2 : decode jdk_43_method_2_code 2 = .ok (.arraylength, 1) := by decide +kernel
theorem d17_3 : decode jdk_43_method_2_code 3 = .ok (.invokestatic 9, 3) := by decide +kernel
theorem d17_6 : decode jdk_43_method_2_code 6 = .ok (.aload_n 0, 1) := by decide +kernel
theorem d17_7 : decode jdk_43_method_2_code 7 = .ok (.iload_n 1, 1) := by decide +kernel
theorem d17_8 : decode jdk_43_method_2_code 8 = .ok (.baload, 1) := by decide +kernel
theorem d17_9 : decode jdk_43_method_2_code 9 = .ok (.sipush 255, 3) := by decide +kernel
theorem d17_12 : decode jdk_43_method_2_code 12 = .ok (.iand, 1) := by decide +kernel
theorem d17_13 : decode jdk_43_method_2_code 13 = .ok (.i2c, 1) := by decide +kernel
theorem d17_14 : decode jdk_43_method_2_code 14 = .ok (.ireturn, 1) := by decide +kernel
theorem pd_3 : parseMethodDescriptor "(II)V" = some ⟨[.int, .int], none⟩ := by decide +kernel
theorem pn17 : plainName "java/lang/StringLatin1" = true := by first | (simp [plainName, overriddenIn]; done) | decide +kernel
theorem ef17_RI (m : MethodId) (x0 : Addr) (x1 : Int32) : entryFrame m #[(.ref x0), (.int x1)] 2 = mkF m 0 #[.val (.ref x0), .val (.int x1)] [] := by first | (simp [entryFrame, mkF, argsToLocals, Value.category]; done) | rfl
set_option maxRecDepth 65536 in
set_option maxHeartbeats 40000000 in
theorem rm_lch (l : Launch) (Z : State) (a0 : Array Value) (hw : ∀ d ∈ tables_1, d.before a0 Z = true) (ws : List Jvm.Cond) (a1 : Addr) (p1 : Int32) (k1 : ClassId) (n1 : Int32) (vs1 : List Value) (dv1 : Value) (vx : Int32) (fm : Value) (h0 : Heap) (n0 : Nat) (Z0 : n0 ≤ h0.size) (H0 : Arv Z h0 a1 k1 .byte n1 vs1 dv1) (H1 : Sta Z h0 "jdk/internal/util/Preconditions" "SIOOBE_FORMATTER" "Ljava/util/function/BiFunction;" fm) (isr_fm : fm.isRef = true) (hi0 : ¬ p1 < (0 : Int32)) (hi1 : p1 < n1) (hg : vs1.getD p1.toNatClampNeg dv1 = .int vx) :
    Met l Z Y10 jdk_43_method_2_code 2 (some .char) ws ({ frames := 2, cells := 0, slots := 0, locals := 27 } : Room) #[(.ref a1), (.int p1)] h0 (Q_lch Z a1 p1 k1 n1 vs1 dv1 vx fm h0 n0) := by
  refine own_body (plainFor_of_name pn17) ?_
  intro p e s m below meth c s₁ hx hby hret hlk hml hZ hown hnm X0 e0
  have N0 := Fr.nil n0
  refine Wp.back (U' := (s₁.setTop (mkF m 0 #[.val (.ref a1), .val (.int p1)] []))) (fun t k => castTop (ef17_RI m a1 p1) k) ?_
  refine Wp.back (U' := (s₁.setTop (mkF m 2 #[.val (.ref a1), .val (.int p1)] [(.ref a1), (.int p1)]))) (fun t k => XS.iloadN X0.here hx rfl (hb hby d17_0) rfl (XS.aloadN X0.here hx rfl (hb hby d17_1) rfl rfl k)) ?_
  have vq1 := H0
  obtain ⟨cl1, Ar1, -, qs1, qn1, -, -⟩ := vq1
  refine Wp.back (U' := (s₁.setTop (mkF m 3 #[.val (.ref a1), .val (.int p1)] [(.int n1), (.int p1)]))) (fun t k => X0.arraylength hx (by rw [e0]; exact Ar1.1) (State.isArrayOf_alike hZ.alike Ar1.2.1) (g := (mkF m 2 #[.val (.ref a1), .val (.int p1)] [(.ref a1), (.int p1)])) rfl rfl (hb hby d17_2) t (by rw [len_of qs1 qn1]; exact k)) ?_
  obtain ⟨_, _, ⟨T2, L2, k2, n2⟩, -, X2, ⟨Lc2, hQ2, l2, y2, z2⟩, st2⟩ := Jvm.LawKit.callS X0 hx (y := Y3) hown (mvT hZ (ow hw 85 rfl)) (mvT hZ (ow hw 86 rfl)) (mvT hZ (ow hw 11 rfl)) (mvT hZ (ow hw 87 rfl)) (by decide) (backOf (W := 0) (rm_sck l Z a0 hw [] p1 n1 fm h0 n0 Z0 H1 isr_fm hi0 hi1) hZ (ow hw 87 rfl) (ow hw 11 rfl) (by decide) (by decide)) (g := (mkF m 3 #[.val (.ref a1), .val (.int p1)] [(.int n1), (.int p1)])) rfl (by rw [hml]; rfl) (argsL := [(.int p1), (.int n1)]) (rest := []) (lenOf pd_3 rfl) rfl (Nat.le_of_eq rfl) (hb hby d17_3) (fun _ _ => ⟨rfl, e0, (by decide : 0 + 0 ≤ _), (by decide : 0 + 0 ≤ _)⟩)
  dsimp only [Pt.U, Pt.locs, Pt.cells, Pt.slots] at X2 l2 y2 z2 st2 hQ2
  subst l2 y2 z2
  obtain ⟨rfl, N2q, K2⟩ := hQ2
  have f3_0 := Nat.le_trans Z0 K2.1
  have f3_1 := H0.keep K2 nin0
  have f3_2 := Sta_keep0 H1 K2
  have f3_3 := (Keep.refl h0 []).trans K2 all0
  have N2 := Fr.app N0 N2q
  refine Wp.back (U' := (T2.setTop (mkF m 6 #[.val (.ref a1), .val (.int p1)] []))) st2 ?_
  refine Wp.back (U' := (T2.setTop (mkF m 8 #[.val (.ref a1), .val (.int p1)] [(.int p1), (.ref a1)]))) (fun t k => XS.aloadN X2.here hx rfl (hb hby d17_6) rfl rfl (XS.iloadN X2.here hx rfl (hb hby d17_7) rfl k)) ?_
  have vq4 := f3_1
  obtain ⟨cl4, Ar4, qa4, qs4, qn4, qh4, qg4⟩ := vq4
  have hin4 : ¬ (p1 < 0 ∨ cl4.slots.size ≤ (p1).toNatClampNeg) := inb_of qs4 ⟨hi0, hi1⟩
  have hat4 : cl4.slots[(p1).toNatClampNeg]? = some (.int vx) := Has.at qh4 hin4 hg
  refine Wp.back (U' := (T2.setTop (mkF m 9 #[.val (.ref a1), .val (.int p1)] [(.int vx)]))) (fun t k => X2.baloadBytes hx (j := p1) (v := (.int vx)) Ar4.1 (State.isArrayOf_alike hZ.alike Ar4.2.1) Ar4.2.2 hin4 hat4 (g := (mkF m 8 #[.val (.ref a1), .val (.int p1)] [(.int p1), (.ref a1)])) rfl rfl (hb hby d17_8) t k) ?_
  refine Wp.back (U' := (T2.setTop (mkF m 14 #[.val (.ref a1), .val (.int p1)] [(.int ((vx &&& (255 : Int32))).toUInt32.toUInt16.toUInt32.toInt32)]))) (fun t k => XT.sipushV X2.here hx rfl 255 (hb hby d17_9) (by decide) (XS.iand X2.here hx rfl (hb hby d17_12) rfl (XS.i2c X2.here hx rfl (hb hby d17_13) rfl k))) ?_
  obtain ⟨fs, hr, hrun, hended, hW, hsame⟩ := X2.leave (v := (some (.int (nar .char ((vx &&& (255 : Int32))).toUInt32.toUInt16.toUInt32.toInt32)))) (fun h => by rw [hret] at h; cases h)
  refine Wp.done (retN X2 hx (t := .char) hret (by simp) (hb hby d17_14) hr) hrun hended ⟨_, _, rfl, ?_, ⟨_, rfl⟩, hW, hsame.mono (by decide) (by decide)⟩
  show Q_lch Z a1 p1 k1 n1 vs1 dv1 vx fm h0 n0 _ T2.heap _
  exact ⟨rfl, N2, f3_3⟩
def Q_sch (Z : State) (ar : Addr) (p1 : Int32) (a1 : Addr) (cs : Int32) (k1 : ClassId) (n1 : Int32) (vs1 : List Value) (dv1 : Value) (vx : Int32) (fm : Value) (h0 : Heap) (n0 : Nat) (v : Option Value) (h : Heap) (L : List Loc) : Prop := v = some (.int (nar .char (nar .char ((vx &&& (255 : Int32))).toUInt32.toUInt16.toUInt32.toInt32))) ∧ Fr n0 L ∧ Keep h0 h []
theorem d15_0 : decode jdk_42_method_56_code 0 = .ok (.aload_n 0, 1) := by decide +kernel
theorem d15_1 : decode jdk_42_method_56_code 1 = .ok (.invokevirtual 492, 3) := by decide +kernel
theorem d15_4 : decode jdk_42_method_56_code 4 = .ok (.ifCond .eq 12, 3) := by decide +kernel
theorem d15_7 : decode jdk_42_method_56_code 7 = .ok (.aload_n 0, 1) := by decide +kernel
theorem d15_8 : decode jdk_42_method_56_code 8 = .ok (.getfield 9, 3) := by decide +kernel
theorem d15_11 : decode jdk_42_method_56_code 11 = .ok (.iload_n 1, 1) := by decide +kernel
theorem d15_12 : decode jdk_42_method_56_code 12 = .ok (.invokestatic 495, 3) := by decide +kernel
theorem d15_15 : decode jdk_42_method_56_code 15 = .ok (.ireturn, 1) := by decide +kernel
theorem pd_4 : parseMethodDescriptor "()Z" = some ⟨[], some .boolean⟩ := by decide +kernel
theorem pd_5 : parseMethodDescriptor "([BI)C" = some ⟨[(.array .byte), .int], some .char⟩ := by decide +kernel
theorem pn15 : plainName "java/lang/String" = true := by first | (simp [plainName, overriddenIn]; done) | decide +kernel
theorem ef15_RI (m : MethodId) (x0 : Addr) (x1 : Int32) : entryFrame m #[(.ref x0), (.int x1)] 2 = mkF m 0 #[.val (.ref x0), .val (.int x1)] [] := by first | (simp [entryFrame, mkF, argsToLocals, Value.category]; done) | rfl
set_option maxRecDepth 65536 in
set_option maxHeartbeats 40000000 in
theorem rm_sch (l : Launch) (Z : State) (a0 : Array Value) (hw : ∀ d ∈ tables_1, d.before a0 Z = true) (ws : List Jvm.Cond) (ar : Addr) (p1 : Int32) (a1 : Addr) (cs : Int32) (k1 : ClassId) (n1 : Int32) (vs1 : List Value) (dv1 : Value) (vx : Int32) (fm : Value) (h0 : Heap) (n0 : Nat) (Z0 : n0 ≤ h0.size) (H0 : Exa Z h0 ar "java/lang/String") (H1 : Fld Z h0 ar "java/lang/String" "value" "[B" (.ref a1)) (H2 : Fld Z h0 ar "java/lang/String" "coder" "B" (.int 0)) (H3 : Arv Z h0 a1 k1 .byte n1 vs1 dv1) (H4 : Sta Z h0 "java/lang/String" "COMPACT_STRINGS" "Z" (.int cs)) (H5 : Sta Z h0 "jdk/internal/util/Preconditions" "SIOOBE_FORMATTER" "Ljava/util/function/BiFunction;" fm) (isr_fm : fm.isRef = true) (hi0 : ¬ p1 < (0 : Int32)) (hi1 : p1 < n1) (hg : vs1.getD p1.toNatClampNeg dv1 = .int vx) (hcs : ¬ cs = (0 : Int32)) :
    Met l Z Y11 jdk_42_method_56_code 2 (some .char) ws ({ frames := 3, cells := 0, slots := 0, locals := 40 } : Room) #[(.ref ar), (.int p1)] h0 (Q_sch Z ar p1 a1 cs k1 n1 vs1 dv1 vx fm h0 n0) := by
  refine own_body (plainFor_of_name pn15) ?_
  intro p e s m below meth c s₁ hx hby hret hlk hml hZ hown hnm X0 e0
  have N0 := Fr.nil n0
  refine Wp.back (U' := (s₁.setTop (mkF m 0 #[.val (.ref ar), .val (.int p1)] []))) (fun t k => castTop (ef15_RI m ar p1) k) ?_
  refine Wp.back (U' := (s₁.setTop (mkF m 1 #[.val (.ref ar), .val (.int p1)] [(.ref ar)]))) (fun t k => XS.aloadN X0.here hx rfl (hb hby d15_0) rfl rfl k) ?_
  obtain ⟨cq1, kq1, q1a, q1b, q1c⟩ := isOf hZ e0 H0
  obtain ⟨_, _, ⟨T1, L1, k1, n1⟩, -, X1, ⟨Lc1, hQ1, l1, y1, z1⟩, st1⟩ := X0.virtualBack hx (y := Y8) (z := Y8) hown (mvT hZ (ow hw 76 rfl)) (mvT hZ (ow hw 77 rfl)) (notFace_of_selects (args := #[]) (mvT hZ (ow hw 79 rfl))) (mvT hZ (ow hw 79 rfl)) (mvT hZ (ow hw 78 rfl)) (by decide) (backOf (W := 0) (rm_isl l Z a0 hw [] ar cs h0 n0 Z0 H2 H4 hcs) hZ (ow hw 80 rfl) (ow hw 11 rfl) (by decide) (by decide)) q1a q1c (g := (mkF m 1 #[.val (.ref ar), .val (.int p1)] [(.ref ar)])) rfl (by rw [hml]; rfl) (Steps.refl _) (argsL := []) (rest := []) (lenOf pd_4 rfl) rfl (Nat.le_of_eq rfl) (hb hby d15_1) (fun _ _ => ⟨rfl, e0, (by decide : 0 + 0 ≤ _), (by decide : 0 + 0 ≤ _)⟩)
  dsimp only [Pt.U, Pt.locs, Pt.cells, Pt.slots] at X1 l1 y1 z1 st1 hQ1
  subst l1 y1 z1
  obtain ⟨rfl, N1q, K1⟩ := hQ1
  have f2_0 := Nat.le_trans Z0 K1.1
  have f2_1 := H0.keep K1
  have f2_2 := H1.keep K1 nin0
  have f2_3 := H2.keep K1 nin0
  have f2_4 := H3.keep K1 nin0
  have f2_5 := Sta_keep0 H4 K1
  have f2_6 := Sta_keep0 H5 K1
  have f2_7 := (Keep.refl h0 []).trans K1 all0
  have N1 := Fr.app N0 N1q
  refine Wp.back (U' := (T1.setTop (mkF m 4 #[.val (.ref ar), .val (.int p1)] [(.int 1)]))) (fun t k => st1.trans k) ?_
  refine Wp.back (U' := (T1.setTop (mkF m 8 #[.val (.ref ar), .val (.int p1)] [(.ref ar)]))) (fun t k => XS.ifNo X1.here hx rfl (hb hby d15_4) rfl ((if0 _ _).trans (feq (by decide)).1) (XS.aloadN X1.here hx rfl (hb hby d15_7) rfl rfl k)) ?_
  obtain ⟨T3, X3, e3, st3⟩ := getF X1 hx hZ hown (host := "") (Or.inl (ow hw 36 rfl)) Via.refl rfl f2_2 (g := (mkF m 8 #[.val (.ref ar), .val (.int p1)] [(.ref ar)])) rfl rfl (hb hby d15_8)
  refine Wp.back (U' := (T3.setTop (mkF m 11 #[.val (.ref ar), .val (.int p1)] [(.ref a1)]))) st3 ?_
  refine Wp.back (U' := (T3.setTop (mkF m 12 #[.val (.ref ar), .val (.int p1)] [(.int p1), (.ref a1)]))) (fun t k => XS.iloadN X3.here hx rfl (hb hby d15_11) rfl k) ?_
  obtain ⟨_, _, ⟨T4, L4, k4, n4⟩, -, X4, ⟨Lc4, hQ4, l4, y4, z4⟩, st4⟩ := Jvm.LawKit.callS X3 hx (y := Y10) hown (mvT hZ (ow hw 81 rfl)) (mvT hZ (ow hw 82 rfl)) (mvT hZ (ow hw 83 rfl)) (mvT hZ (ow hw 84 rfl)) (by decide) (backOf (W := 0) (rm_lch l Z a0 hw [] a1 p1 k1 n1 vs1 dv1 vx fm T1.heap n0 f2_0 f2_4 f2_6 isr_fm hi0 hi1 hg) hZ (ow hw 84 rfl) (ow hw 83 rfl) (by decide) (by decide)) (g := (mkF m 12 #[.val (.ref ar), .val (.int p1)] [(.int p1), (.ref a1)])) rfl (by rw [hml]; rfl) (argsL := [(.ref a1), (.int p1)]) (rest := []) (lenOf pd_5 rfl) rfl (Nat.le_of_eq rfl) (hb hby d15_12) (fun _ _ => ⟨rfl, e3, (by decide : 0 + 0 ≤ _), (by decide : 0 + 0 ≤ _)⟩)
  dsimp only [Pt.U, Pt.locs, Pt.cells, Pt.slots] at X4 l4 y4 z4 st4 hQ4
  subst l4 y4 z4
  obtain ⟨rfl, N4q, K4⟩ := hQ4
  have f5_0 := Nat.le_trans f2_0 K4.1
  have f5_1 := f2_1.keep K4
  have f5_2 := f2_2.keep K4 nin0
  have f5_3 := f2_3.keep K4 nin0
  have f5_4 := f2_4.keep K4 nin0
  have f5_5 := Sta_keep0 f2_5 K4
  have f5_6 := Sta_keep0 f2_6 K4
  have f5_7 := f2_7.trans K4 all0
  have N4 := Fr.app N1 N4q
  refine Wp.back (U' := (T4.setTop (mkF m 15 #[.val (.ref ar), .val (.int p1)] [(.int (nar .char ((vx &&& (255 : Int32))).toUInt32.toUInt16.toUInt32.toInt32))]))) st4 ?_
  obtain ⟨fs, hr, hrun, hended, hW, hsame⟩ := X4.leave (v := (some (.int (nar .char (nar .char ((vx &&& (255 : Int32))).toUInt32.toUInt16.toUInt32.toInt32))))) (fun h => by rw [hret] at h; cases h)
  refine Wp.done (retN X4 hx (t := .char) hret (by simp) (hb hby d15_15) hr) hrun hended ⟨_, _, rfl, ?_, ⟨_, rfl⟩, hW, hsame.mono (by decide) (by decide)⟩
  show Q_sch Z ar p1 a1 cs k1 n1 vs1 dv1 vx fm h0 n0 _ T4.heap _
  exact ⟨rfl, N4, f5_7⟩
def Q_mme (Z : State) (a1 : Addr) (p1 : Int32) (a2 : Addr) (k1 : ClassId) (n1 : Int32) (vs1 : List Value) (dv1 : Value) (k2 : ClassId) (dv2 : Value) (vx : Int32) (h0 : Heap) (n0 : Nat) (v : Option Value) (h : Heap) (L : List Loc) : Prop := v = some (.int (-1 : Int32)) ∧ Fr n0 L ∧ Keep h0 h []
theorem d14_0 : decode jdk_48_method_14_code 0 = .ok (.iconst 0, 1) := by decide +kernel
theorem d14_1 : decode jdk_48_method_14_code 1 = .ok (.istore 5, 2) := by decide +kernel
theorem d14_3 : decode jdk_48_method_14_code 3 = .ok (.iload 4, 2) := by decide +kernel
theorem d14_5 : decode jdk_48_method_14_code 5 = .ok (.bipush 7, 2) := by decide +kernel
theorem d14_7 : decode jdk_48_method_14_code 7 = .ok (.if_icmp .le 63, 3) := by decide +kernel
theorem d14_70 : decode jdk_48_method_14_code 70 = .ok (.iload 5, 2) := by decide +kernel
theorem d14_72 : decode jdk_48_method_14_code 72 = .ok (.iload 4, 2) := by decide +kernel
theorem d14_74 : decode jdk_48_method_14_code 74 = .ok (.if_icmp .ge 27, 3) := by decide +kernel
theorem d14_77 : decode jdk_48_method_14_code 77 = .ok (.aload_n 0, 1) := by decide +kernel
theorem d14_78 : decode jdk_48_method_14_code 78 = .ok (.iload_n 1, 1) := by decide +kernel
theorem d14_79 : decode jdk_48_method_14_code 79 = .ok (.iload 5, 2) := by decide +kernel
theorem d14_81 : decode jdk_48_method_14_code 81 = .ok (.iadd, 1) := by decide +kernel
theorem d14_82 : decode jdk_48_method_14_code 82 = .ok (.baload, 1) := by decide +kernel
theorem d14_83 : decode jdk_48_method_14_code 83 = .ok (.aload_n 2, 1) := by decide +kernel
theorem d14_84 : decode jdk_48_method_14_code 84 = .ok (.iload_n 3, 1) := by decide +kernel
theorem d14_85 : decode jdk_48_method_14_code 85 = .ok (.iload 5, 2) := by decide +kernel
theorem d14_87 : decode jdk_48_method_14_code 87 = .ok (.iadd, 1) := by decide +kernel
theorem d14_88 : decode jdk_48_method_14_code 88 = .ok (.baload, 1) := by decide +kernel
theorem d14_89 : decode jdk_48_method_14_code 89 = .ok (.if_icmp .eq 6, 3) := by decide +kernel
theorem d14_95 : decode jdk_48_method_14_code 95 = .ok (.iinc 5 1, 3) := by decide +kernel
theorem d14_98 : decode jdk_48_method_14_code 98 = .ok (.goto (-28), 3) := by decide +kernel
theorem d14_101 : decode jdk_48_method_14_code 101 = .ok (.iconst (-1), 1) := by decide +kernel
theorem d14_102 : decode jdk_48_method_14_code 102 = .ok (.ireturn, 1) := by decide +kernel
theorem pn14 : plainName "jdk/internal/util/ArraysSupport" = true := by first | (simp [plainName, overriddenIn]; done) | decide +kernel
theorem ef14_RIRII (m : MethodId) (x0 : Addr) (x1 : Int32) (x2 : Addr) (x3 : Int32) (x4 : Int32) : entryFrame m #[(.ref x0), (.int x1), (.ref x2), (.int x3), (.int x4)] 8 = mkF m 0 #[.val (.ref x0), .val (.int x1), .val (.ref x2), .val (.int x3), .val (.int x4), .unset, .unset, .unset] [] := by first | (simp [entryFrame, mkF, argsToLocals, Value.category]; done) | rfl
set_option maxRecDepth 65536 in
set_option maxHeartbeats 40000000 in
theorem rm_mme (l : Launch) (Z : State) (a0 : Array Value) (hw : ∀ d ∈ tables_1, d.before a0 Z = true) (ws : List Jvm.Cond) (a1 : Addr) (p1 : Int32) (a2 : Addr) (k1 : ClassId) (n1 : Int32) (vs1 : List Value) (dv1 : Value) (k2 : ClassId) (dv2 : Value) (vx : Int32) (h0 : Heap) (n0 : Nat) (Z0 : n0 ≤ h0.size) (H0 : Arv Z h0 a1 k1 .byte n1 vs1 dv1) (H1 : Arv Z h0 a2 k2 .byte (1 : Int32) [(.int 10)] dv2) (hj0 : ¬ (p1 + (0 : Int32)) < 0) (hj1 : (p1 + (0 : Int32)) < n1) (hg : vs1.getD (p1 + (0 : Int32)).toNatClampNeg dv1 = .int vx) (hv : vx = (10 : Int32)) :
    Met l Z Y12 jdk_48_method_14_code 8 (some .int) ws ({ frames := 0, cells := 0, slots := 0, locals := 0 } : Room) #[(.ref a1), (.int p1), (.ref a2), (.int 0), (.int 1)] h0 (Q_mme Z a1 p1 a2 k1 n1 vs1 dv1 k2 dv2 vx h0 n0) := by
  refine own_body (plainFor_of_name pn14) ?_
  intro p e s m below meth c s₁ hx hby hret hlk hml hZ hown hnm X0 e0
  have N0 := Fr.nil n0
  refine Wp.back (U' := (s₁.setTop (mkF m 0 #[.val (.ref a1), .val (.int p1), .val (.ref a2), .val (.int 0), .val (.int 1), .unset, .unset, .unset] []))) (fun t k => castTop (ef14_RIRII m a1 p1 a2 (0 : Int32) (1 : Int32)) k) ?_
  refine Wp.back (U' := (s₁.setTop (mkF m 82 #[.val (.ref a1), .val (.int p1), .val (.ref a2), .val (.int 0), .val (.int 1), .val (.int 0), .unset, .unset] [(.int (p1 + (0 : Int32))), (.ref a1)]))) (fun t k => XT.iconstV X0.here hx rfl 0 (hb hby d14_0) (by decide) (XS.istore X0.here hx rfl (hb hby d14_1) rfl (l' := #[.val (.ref a1), .val (.int p1), .val (.ref a2), .val (.int 0), .val (.int 1), .val (.int 0), .unset, .unset]) rfl (XS.iload X0.here hx rfl (hb hby d14_3) rfl (XT.bipushV X0.here hx rfl 7 (hb hby d14_5) (by decide) (XS.icmpYes X0.here hx rfl (pc0 := 7) (pc' := 70) rfl (hb hby d14_7) rfl (flt (by decide)).2.2.2 (by decide) (by decide) (XS.iload X0.here hx rfl (hb hby d14_70) rfl (XS.iload X0.here hx rfl (hb hby d14_72) rfl (XS.icmpNo X0.here hx rfl (hb hby d14_74) rfl (tlt (by decide)).2.1 (XS.aloadN X0.here hx rfl (hb hby d14_77) rfl rfl (XS.iloadN X0.here hx rfl (hb hby d14_78) rfl (XS.iload X0.here hx rfl (hb hby d14_79) rfl (XS.iadd X0.here hx rfl (hb hby d14_81) rfl k)))))))))))) ?_
  have vq1 := H0
  obtain ⟨cl1, Ar1, qa1, qs1, qn1, qh1, qg1⟩ := vq1
  have hin1 : ¬ ((p1 + (0 : Int32)) < 0 ∨ cl1.slots.size ≤ ((p1 + (0 : Int32))).toNatClampNeg) := inb_of qs1 ⟨hj0, hj1⟩
  have hat1 : cl1.slots[((p1 + (0 : Int32))).toNatClampNeg]? = some (.int vx) := Has.at qh1 hin1 hg
  refine Wp.back (U' := (s₁.setTop (mkF m 83 #[.val (.ref a1), .val (.int p1), .val (.ref a2), .val (.int 0), .val (.int 1), .val (.int 0), .unset, .unset] [(.int vx)]))) (fun t k => X0.baloadBytes hx (j := (p1 + (0 : Int32))) (v := (.int vx)) (by rw [e0]; exact Ar1.1) (State.isArrayOf_alike hZ.alike Ar1.2.1) Ar1.2.2 hin1 hat1 (g := (mkF m 82 #[.val (.ref a1), .val (.int p1), .val (.ref a2), .val (.int 0), .val (.int 1), .val (.int 0), .unset, .unset] [(.int (p1 + (0 : Int32))), (.ref a1)])) rfl rfl (hb hby d14_82) t k) ?_
  refine Wp.back (U' := (s₁.setTop (mkF m 88 #[.val (.ref a1), .val (.int p1), .val (.ref a2), .val (.int 0), .val (.int 1), .val (.int 0), .unset, .unset] [(.int 0), (.ref a2), (.int vx)]))) (fun t k => XS.aloadN X0.here hx rfl (hb hby d14_83) rfl rfl (XS.iloadN X0.here hx rfl (hb hby d14_84) rfl (XS.iload X0.here hx rfl (hb hby d14_85) rfl (XS.iadd X0.here hx rfl (hb hby d14_87) rfl k)))) ?_
  have vq2 := H1
  obtain ⟨cl2, Ar2, qa2, qs2, qn2, qh2, qg2⟩ := vq2
  have hin2 : ¬ ((0 : Int32) < 0 ∨ cl2.slots.size ≤ ((0 : Int32)).toNatClampNeg) := inb_of qs2 ⟨by decide, by decide⟩
  have hat2 : cl2.slots[((0 : Int32)).toNatClampNeg]? = some (.int 10) := Has.at qh2 hin2 rfl
  refine Wp.back (U' := (s₁.setTop (mkF m 89 #[.val (.ref a1), .val (.int p1), .val (.ref a2), .val (.int 0), .val (.int 1), .val (.int 0), .unset, .unset] [(.int 10), (.int vx)]))) (fun t k => X0.baloadBytes hx (j := (0 : Int32)) (v := (.int 10)) (by rw [e0]; exact Ar2.1) (State.isArrayOf_alike hZ.alike Ar2.2.1) Ar2.2.2 hin2 hat2 (g := (mkF m 88 #[.val (.ref a1), .val (.int p1), .val (.ref a2), .val (.int 0), .val (.int 1), .val (.int 0), .unset, .unset] [(.int 0), (.ref a2), (.int vx)])) rfl rfl (hb hby d14_88) t k) ?_
  refine Wp.back (U' := (s₁.setTop (mkF m 102 #[.val (.ref a1), .val (.int p1), .val (.ref a2), .val (.int 0), .val (.int 1), .val (.int 1), .unset, .unset] [(.int (-1 : Int32))]))) (fun t k => XS.icmpYes X0.here hx rfl (pc0 := 89) (pc' := 95) rfl (hb hby d14_89) rfl (teq hv).1 (by decide) (by decide) (XT.iincV X0.here hx rfl 1 (hb hby d14_95) (by decide) rfl (l' := #[.val (.ref a1), .val (.int p1), .val (.ref a2), .val (.int 0), .val (.int 1), .val (.int 1), .unset, .unset]) rfl (XS.goto X0.here hx rfl (pc0 := 98) (pc' := 70) rfl (hb hby d14_98) (by decide) (by decide) (XS.iload X0.here hx rfl (hb hby d14_70) rfl (XS.iload X0.here hx rfl (hb hby d14_72) rfl (XS.icmpYes X0.here hx rfl (pc0 := 74) (pc' := 101) rfl (hb hby d14_74) rfl (flt (by decide)).2.1 (by decide) (by decide) (XT.iconstV X0.here hx rfl (-1 : Int32) (hb hby d14_101) (by decide) k))))))) ?_
  obtain ⟨fs, hr, hrun, hended, hW, hsame⟩ := X0.leave (v := (some (.int (-1 : Int32)))) (fun h => by rw [hret] at h; cases h)
  refine Wp.done (retI X0 hx hret (hb hby d14_102) hr) hrun hended ⟨_, _, rfl, ?_, ⟨_, rfl⟩, hW, hsame.mono (by decide) (by decide)⟩
  show Q_mme Z a1 p1 a2 k1 n1 vs1 dv1 k2 dv2 vx h0 n0 _ s₁.heap _
  rw [e0]
  exact ⟨rfl, N0, (Keep.refl h0 [])⟩
def Q_swe (Z : State) (ar : Addr) (br : Addr) (a1 : Addr) (k1 : ClassId) (n1 : Int32) (vs1 : List Value) (dv1 : Value) (a2 : Addr) (k2 : ClassId) (dv2 : Value) (vx : Int32) (cs : Int32) (h0 : Heap) (n0 : Nat) (v : Option Value) (h : Heap) (L : List Loc) : Prop := v = some (.int 1) ∧ Fr n0 L ∧ Keep h0 h []
theorem d13_0 : decode jdk_42_method_75_code 0 = .ok (.iload_n 2, 1) := by decide +kernel
theorem d13_1 : decode jdk_42_method_75_code 1 = .ok (.ifCond .lt 16, 3) := by decide +kernel
theorem d13_4 : decode jdk_42_method_75_code 4 = .ok (.iload_n 2, 1) := by decide +kernel
theorem d13_5 : decode jdk_42_method_75_code 5 = .ok (.aload_n 0, 1) := by decide +kernel
theorem d13_6 : decode jdk_42_method_75_code 6 = .ok (.invokevirtual 505, 3) := by decide +kernel
theorem d13_9 : decode jdk_42_method_75_code 9 = .ok (.aload_n 1, 1) := by decide +kernel
theorem d13_10 : decode jdk_42_method_75_code 10 = .ok (.invokevirtual 505, 3) := by decide +kernel
theorem d13_13 : decode jdk_42_method_75_code 13 = .ok (.isub, 1) := by decide +kernel
theorem d13_14 : decode jdk_42_method_75_code 14 = .ok (.if_icmp .le 5, 3) := by decide +kernel
theorem d13_19 : decode jdk_42_method_75_code 19 = .ok (.aload_n 0, 1) := by decide +kernel
theorem d13_20 : decode jdk_42_method_75_code 20 = .ok (.getfield 9, 3) := by decide +kernel
theorem d13_23 : decode jdk_42_method_75_code 23 = .ok (.astore_n 3, 1) := by decide +kernel
theorem d13_24 : decode jdk_42_method_75_code 24 = .ok (.aload_n 1, 1) := by decide +kernel
theorem d13_25 : decode jdk_42_method_75_code 25 = .ok (.getfield 9, 3) := by decide +kernel
theorem d13_28 : decode jdk_42_method_75_code 28 = .ok (.astore 4, 2) := by decide +kernel
theorem d13_30 : decode jdk_42_method_75_code 30 = .ok (.iconst 0, 1) := by decide +kernel
theorem d13_31 : decode jdk_42_method_75_code 31 = .ok (.istore 5, 2) := by decide +kernel
theorem d13_33 : decode jdk_42_method_75_code 33 = .ok (.aload 4, 2) := by decide +kernel
theorem d13_35 : decode jdk_42_method_75_code 35 = .ok (.arraylength, 1) := by decide +kernel
theorem d13_36 : decode jdk_42_method_75_code 36 = .ok (.istore 6, 2) := by decide +kernel
theorem d13_38 : decode jdk_42_method_75_code 38 = .ok (.aload_n 0, 1) := by decide +kernel
theorem d13_39 : decode jdk_42_method_75_code 39 = .ok (.invokevirtual 335, 3) := by decide +kernel
theorem d13_42 : decode jdk_42_method_75_code 42 = .ok (.istore 7, 2) := by decide +kernel
theorem d13_44 : decode jdk_42_method_75_code 44 = .ok (.iload 7, 2) := by decide +kernel
theorem d13_46 : decode jdk_42_method_75_code 46 = .ok (.aload_n 1, 1) := by decide +kernel
theorem d13_47 : decode jdk_42_method_75_code 47 = .ok (.invokevirtual 335, 3) := by decide +kernel
theorem d13_50 : decode jdk_42_method_75_code 50 = .ok (.if_icmp .ne 32, 3) := by decide +kernel
theorem d13_53 : decode jdk_42_method_75_code 53 = .ok (.iload 7, 2) := by decide +kernel
theorem d13_55 : decode jdk_42_method_75_code 55 = .ok (.iconst 1, 1) := by decide +kernel
theorem d13_56 : decode jdk_42_method_75_code 56 = .ok (.if_icmp .ne 7, 3) := by decide +kernel
theorem d13_63 : decode jdk_42_method_75_code 63 = .ok (.aload_n 3, 1) := by decide +kernel
theorem d13_64 : decode jdk_42_method_75_code 64 = .ok (.iload_n 2, 1) := by decide +kernel
theorem d13_65 : decode jdk_42_method_75_code 65 = .ok (.aload 4, 2) := by decide +kernel
theorem d13_67 : decode jdk_42_method_75_code 67 = .ok (.iconst 0, 1) := by decide +kernel
theorem d13_68 : decode jdk_42_method_75_code 68 = .ok (.iload 6, 2) := by decide +kernel
theorem d13_70 : decode jdk_42_method_75_code 70 = .ok (.invokestatic 607, 3) := by decide +kernel
theorem d13_73 : decode jdk_42_method_75_code 73 = .ok (.ifCond .ge 7, 3) := by decide +kernel
theorem d13_76 : decode jdk_42_method_75_code 76 = .ok (.iconst 1, 1) := by decide +kernel
theorem d13_77 : decode jdk_42_method_75_code 77 = .ok (.goto 4, 3) := by decide +kernel
theorem d13_81 : decode jdk_42_method_75_code 81 = .ok (.ireturn, 1) := by decide +kernel
theorem pd_6 : parseMethodDescriptor "()I" = some ⟨[], some .int⟩ := by decide +kernel
theorem pd_7 : parseMethodDescriptor "([BI[BII)I" = some ⟨[(.array .byte), .int, (.array .byte), .int, .int], some .int⟩ := by decide +kernel
theorem pn13 : plainName "java/lang/String" = true := by first | (simp [plainName, overriddenIn]; done) | decide +kernel
theorem ef13_RRI (m : MethodId) (x0 : Addr) (x1 : Addr) (x2 : Int32) : entryFrame m #[(.ref x0), (.ref x1), (.int x2)] 8 = mkF m 0 #[.val (.ref x0), .val (.ref x1), .val (.int x2), .unset, .unset, .unset, .unset, .unset] [] := by first | (simp [entryFrame, mkF, argsToLocals, Value.category]; done) | rfl
set_option maxRecDepth 65536 in
set_option maxHeartbeats 40000000 in
theorem rm_swe (l : Launch) (Z : State) (a0 : Array Value) (hw : ∀ d ∈ tables_1, d.before a0 Z = true) (ws : List Jvm.Cond) (ar : Addr) (br : Addr) (a1 : Addr) (k1 : ClassId) (n1 : Int32) (vs1 : List Value) (dv1 : Value) (a2 : Addr) (k2 : ClassId) (dv2 : Value) (vx : Int32) (cs : Int32) (h0 : Heap) (n0 : Nat) (Z0 : n0 ≤ h0.size) (H0 : Exa Z h0 ar "java/lang/String") (H1 : Fld Z h0 ar "java/lang/String" "value" "[B" (.ref a1)) (H2 : Fld Z h0 ar "java/lang/String" "coder" "B" (.int 0)) (H3 : Arv Z h0 a1 k1 .byte n1 vs1 dv1) (H4 : Exa Z h0 br "java/lang/String") (H5 : Fld Z h0 br "java/lang/String" "value" "[B" (.ref a2)) (H6 : Fld Z h0 br "java/lang/String" "coder" "B" (.int 0)) (H7 : Arv Z h0 a2 k2 .byte (1 : Int32) [(.int 10)] dv2) (H8 : Sta Z h0 "java/lang/String" "COMPACT_STRINGS" "Z" (.int cs)) (hp : ¬ (n1 - (1 : Int32)) < (0 : Int32)) (hj0 : ¬ ((n1 - (1 : Int32)) + (0 : Int32)) < 0) (hj1 : ((n1 - (1 : Int32)) + (0 : Int32)) < n1) (hg : vs1.getD ((n1 - (1 : Int32)) + (0 : Int32)).toNatClampNeg dv1 = .int vx) (hv : vx = (10 : Int32)) (hcs : ¬ cs = (0 : Int32)) :
    Met l Z Y13 jdk_42_method_75_code 8 (some .boolean) ws ({ frames := 2, cells := 0, slots := 0, locals := 27 } : Room) #[(.ref ar), (.ref br), (.int (n1 - (1 : Int32)))] h0 (Q_swe Z ar br a1 k1 n1 vs1 dv1 a2 k2 dv2 vx cs h0 n0) := by
  refine own_body (plainFor_of_name pn13) ?_
  intro p e s m below meth c s₁ hx hby hret hlk hml hZ hown hnm X0 e0
  have N0 := Fr.nil n0
  refine Wp.back (U' := (s₁.setTop (mkF m 0 #[.val (.ref ar), .val (.ref br), .val (.int (n1 - (1 : Int32))), .unset, .unset, .unset, .unset, .unset] []))) (fun t k => castTop (ef13_RRI m ar br (n1 - (1 : Int32))) k) ?_
  refine Wp.back (U' := (s₁.setTop (mkF m 6 #[.val (.ref ar), .val (.ref br), .val (.int (n1 - (1 : Int32))), .unset, .unset, .unset, .unset, .unset] [(.ref ar), (.int (n1 - (1 : Int32)))]))) (fun t k => XS.iloadN X0.here hx rfl (hb hby d13_0) rfl (XS.ifNo X0.here hx rfl (hb hby d13_1) rfl ((if0 _ _).trans (flt hp).1) (XS.iloadN X0.here hx rfl (hb hby d13_4) rfl (XS.aloadN X0.here hx rfl (hb hby d13_5) rfl rfl k)))) ?_
  obtain ⟨cq1, kq1, q1a, q1b, q1c⟩ := isOf hZ e0 H0
  obtain ⟨_, _, ⟨T1, L1, k1, n1⟩, -, X1, ⟨Lc1, hQ1, l1, y1, z1⟩, st1⟩ := X0.virtualBack hx (y := Y9) (z := Y9) hown (mvT hZ (ow hw 51 rfl)) (mvT hZ (ow hw 52 rfl)) (notFace_of_selects (args := #[]) (mvT hZ (ow hw 54 rfl))) (mvT hZ (ow hw 54 rfl)) (mvT hZ (ow hw 53 rfl)) (by decide) (backOf (W := 1) (rm_len l Z a0 hw [] ar a1 k1 n1 vs1 dv1 cs h0 n0 Z0 H0 H1 H2 H3 H8 hcs) hZ (ow hw 55 rfl) (ow hw 11 rfl) (by decide) (by decide)) q1a q1c (g := (mkF m 6 #[.val (.ref ar), .val (.ref br), .val (.int (n1 - (1 : Int32))), .unset, .unset, .unset, .unset, .unset] [(.ref ar), (.int (n1 - (1 : Int32)))])) rfl (by rw [hml]; rfl) (Steps.refl _) (argsL := []) (rest := [(.int (n1 - (1 : Int32)))]) (lenOf pd_6 rfl) rfl (Nat.le_of_eq rfl) (hb hby d13_6) (fun _ _ => ⟨rfl, e0, (by decide : 0 + 0 ≤ _), (by decide : 0 + 0 ≤ _)⟩)
  dsimp only [Pt.U, Pt.locs, Pt.cells, Pt.slots] at X1 l1 y1 z1 st1 hQ1
  subst l1 y1 z1
  obtain ⟨rfl, N1q, K1⟩ := hQ1
  have f2_0 := Nat.le_trans Z0 K1.1
  have f2_1 := H0.keep K1
  have f2_2 := H1.keep K1 nin0
  have f2_3 := H2.keep K1 nin0
  have f2_4 := H3.keep K1 nin0
  have f2_5 := H4.keep K1
  have f2_6 := H5.keep K1 nin0
  have f2_7 := H6.keep K1 nin0
  have f2_8 := H7.keep K1 nin0
  have f2_9 := Sta_keep0 H8 K1
  have f2_10 := (Keep.refl h0 []).trans K1 all0
  have N1 := Fr.app N0 N1q
  refine Wp.back (U' := (T1.setTop (mkF m 9 #[.val (.ref ar), .val (.ref br), .val (.int (n1 - (1 : Int32))), .unset, .unset, .unset, .unset, .unset] [(.int n1), (.int (n1 - (1 : Int32)))]))) (fun t k => st1.trans k) ?_
  refine Wp.back (U' := (T1.setTop (mkF m 10 #[.val (.ref ar), .val (.ref br), .val (.int (n1 - (1 : Int32))), .unset, .unset, .unset, .unset, .unset] [(.ref br), (.int n1), (.int (n1 - (1 : Int32)))]))) (fun t k => XS.aloadN X1.here hx rfl (hb hby d13_9) rfl rfl k) ?_
  obtain ⟨cq3, kq3, q3a, q3b, q3c⟩ := isOf hZ rfl f2_5
  obtain ⟨_, _, ⟨T3, L3, k3, n3⟩, -, X3, ⟨Lc3, hQ3, l3, y3, z3⟩, st3⟩ := X1.virtualBack hx (y := Y9) (z := Y9) hown (mvT hZ (ow hw 51 rfl)) (mvT hZ (ow hw 52 rfl)) (notFace_of_selects (args := #[]) (mvT hZ (ow hw 54 rfl))) (mvT hZ (ow hw 54 rfl)) (mvT hZ (ow hw 53 rfl)) (by decide) (backOf (W := 2) (rm_len l Z a0 hw [] br a2 k2 (1 : Int32) [(.int 10)] dv2 cs T1.heap n0 f2_0 f2_5 f2_6 f2_7 f2_8 f2_9 hcs) hZ (ow hw 55 rfl) (ow hw 11 rfl) (by decide) (by decide)) q3a q3c (g := (mkF m 10 #[.val (.ref ar), .val (.ref br), .val (.int (n1 - (1 : Int32))), .unset, .unset, .unset, .unset, .unset] [(.ref br), (.int n1), (.int (n1 - (1 : Int32)))])) rfl (by rw [hml]; rfl) (Steps.refl _) (argsL := []) (rest := [(.int n1), (.int (n1 - (1 : Int32)))]) (lenOf pd_6 rfl) rfl (Nat.le_of_eq rfl) (hb hby d13_10) (fun _ _ => ⟨rfl, rfl, (by decide : 0 + 0 ≤ _), (by decide : 0 + 0 ≤ _)⟩)
  dsimp only [Pt.U, Pt.locs, Pt.cells, Pt.slots] at X3 l3 y3 z3 st3 hQ3
  subst l3 y3 z3
  obtain ⟨rfl, N3q, K3⟩ := hQ3
  have f4_0 := Nat.le_trans f2_0 K3.1
  have f4_1 := f2_1.keep K3
  have f4_2 := f2_2.keep K3 nin0
  have f4_3 := f2_3.keep K3 nin0
  have f4_4 := f2_4.keep K3 nin0
  have f4_5 := f2_5.keep K3
  have f4_6 := f2_6.keep K3 nin0
  have f4_7 := f2_7.keep K3 nin0
  have f4_8 := f2_8.keep K3 nin0
  have f4_9 := Sta_keep0 f2_9 K3
  have f4_10 := f2_10.trans K3 all0
  have N3 := Fr.app N1 N3q
  refine Wp.back (U' := (T3.setTop (mkF m 13 #[.val (.ref ar), .val (.ref br), .val (.int (n1 - (1 : Int32))), .unset, .unset, .unset, .unset, .unset] [(.int 1), (.int n1), (.int (n1 - (1 : Int32)))]))) (fun t k => st3.trans k) ?_
  refine Wp.back (U' := (T3.setTop (mkF m 20 #[.val (.ref ar), .val (.ref br), .val (.int (n1 - (1 : Int32))), .unset, .unset, .unset, .unset, .unset] [(.ref ar)]))) (fun t k => XS.isub X3.here hx rfl (hb hby d13_13) rfl (XS.icmpYes X3.here hx rfl (pc0 := 14) (pc' := 19) rfl (hb hby d13_14) rfl (flt (own_irrefl _)).2.2.2 (by decide) (by decide) (XS.aloadN X3.here hx rfl (hb hby d13_19) rfl rfl k))) ?_
  obtain ⟨T5, X5, e5, st5⟩ := getF X3 hx hZ hown (host := "") (Or.inl (ow hw 36 rfl)) Via.refl rfl f4_2 (g := (mkF m 20 #[.val (.ref ar), .val (.ref br), .val (.int (n1 - (1 : Int32))), .unset, .unset, .unset, .unset, .unset] [(.ref ar)])) rfl rfl (hb hby d13_20)
  refine Wp.back (U' := (T5.setTop (mkF m 23 #[.val (.ref ar), .val (.ref br), .val (.int (n1 - (1 : Int32))), .unset, .unset, .unset, .unset, .unset] [(.ref a1)]))) st5 ?_
  refine Wp.back (U' := (T5.setTop (mkF m 25 #[.val (.ref ar), .val (.ref br), .val (.int (n1 - (1 : Int32))), .val (.ref a1), .unset, .unset, .unset, .unset] [(.ref br)]))) (fun t k => XS.astoreN X5.here hx rfl (hb hby d13_23) rfl rfl (l' := #[.val (.ref ar), .val (.ref br), .val (.int (n1 - (1 : Int32))), .val (.ref a1), .unset, .unset, .unset, .unset]) rfl (XS.aloadN X5.here hx rfl (hb hby d13_24) rfl rfl k)) ?_
  obtain ⟨T6, X6, e6, st6⟩ := getF X5 hx hZ hown (host := "") (Or.inl (ow hw 36 rfl)) Via.refl e5 f4_6 (g := (mkF m 25 #[.val (.ref ar), .val (.ref br), .val (.int (n1 - (1 : Int32))), .val (.ref a1), .unset, .unset, .unset, .unset] [(.ref br)])) rfl rfl (hb hby d13_25)
  refine Wp.back (U' := (T6.setTop (mkF m 28 #[.val (.ref ar), .val (.ref br), .val (.int (n1 - (1 : Int32))), .val (.ref a1), .unset, .unset, .unset, .unset] [(.ref a2)]))) st6 ?_
  refine Wp.back (U' := (T6.setTop (mkF m 35 #[.val (.ref ar), .val (.ref br), .val (.int (n1 - (1 : Int32))), .val (.ref a1), .val (.ref a2), .val (.int 0), .unset, .unset] [(.ref a2)]))) (fun t k => XS.astore X6.here hx rfl (hb hby d13_28) rfl rfl (l' := #[.val (.ref ar), .val (.ref br), .val (.int (n1 - (1 : Int32))), .val (.ref a1), .val (.ref a2), .unset, .unset, .unset]) rfl (XT.iconstV X6.here hx rfl 0 (hb hby d13_30) (by decide) (XS.istore X6.here hx rfl (hb hby d13_31) rfl (l' := #[.val (.ref ar), .val (.ref br), .val (.int (n1 - (1 : Int32))), .val (.ref a1), .val (.ref a2), .val (.int 0), .unset, .unset]) rfl (XS.aload X6.here hx rfl (hb hby d13_33) rfl rfl k)))) ?_
  have vq7 := f4_8
  obtain ⟨cl7, Ar7, -, qs7, qn7, -, -⟩ := vq7
  refine Wp.back (U' := (T6.setTop (mkF m 36 #[.val (.ref ar), .val (.ref br), .val (.int (n1 - (1 : Int32))), .val (.ref a1), .val (.ref a2), .val (.int 0), .unset, .unset] [(.int 1)]))) (fun t k => X6.arraylength hx (by rw [e6]; exact Ar7.1) (State.isArrayOf_alike hZ.alike Ar7.2.1) (g := (mkF m 35 #[.val (.ref ar), .val (.ref br), .val (.int (n1 - (1 : Int32))), .val (.ref a1), .val (.ref a2), .val (.int 0), .unset, .unset] [(.ref a2)])) rfl rfl (hb hby d13_35) t (by rw [len_of qs7 qn7]; exact k)) ?_
  refine Wp.back (U' := (T6.setTop (mkF m 39 #[.val (.ref ar), .val (.ref br), .val (.int (n1 - (1 : Int32))), .val (.ref a1), .val (.ref a2), .val (.int 0), .val (.int 1), .unset] [(.ref ar)]))) (fun t k => XS.istore X6.here hx rfl (hb hby d13_36) rfl (l' := #[.val (.ref ar), .val (.ref br), .val (.int (n1 - (1 : Int32))), .val (.ref a1), .val (.ref a2), .val (.int 0), .val (.int 1), .unset]) rfl (XS.aloadN X6.here hx rfl (hb hby d13_38) rfl rfl k)) ?_
  obtain ⟨cq8, kq8, q8a, q8b, q8c⟩ := isOf hZ e6 f4_1
  obtain ⟨_, _, ⟨T8, L8, k8, n8⟩, -, X8, ⟨Lc8, hQ8, l8, y8, z8⟩, st8⟩ := X6.virtualBack hx (y := Y7) (z := Y7) hown (mvT hZ (ow hw 56 rfl)) (mvT hZ (ow hw 57 rfl)) (notFace_of_selects (args := #[]) (mvT hZ (ow hw 59 rfl))) (mvT hZ (ow hw 59 rfl)) (mvT hZ (ow hw 58 rfl)) (by decide) (backOf (W := 0) (rm_cod l Z a0 hw [] ar cs T3.heap n0 f4_0 f4_3 f4_9 hcs) hZ (ow hw 60 rfl) (ow hw 11 rfl) (by decide) (by decide)) q8a q8c (g := (mkF m 39 #[.val (.ref ar), .val (.ref br), .val (.int (n1 - (1 : Int32))), .val (.ref a1), .val (.ref a2), .val (.int 0), .val (.int 1), .unset] [(.ref ar)])) rfl (by rw [hml]; rfl) (Steps.refl _) (argsL := []) (rest := []) (lenOf pd_2 rfl) rfl (Nat.le_of_eq rfl) (hb hby d13_39) (fun _ _ => ⟨rfl, e6, (by decide : 0 + 0 ≤ _), (by decide : 0 + 0 ≤ _)⟩)
  dsimp only [Pt.U, Pt.locs, Pt.cells, Pt.slots] at X8 l8 y8 z8 st8 hQ8
  subst l8 y8 z8
  obtain ⟨rfl, N8q, K8⟩ := hQ8
  have f9_0 := Nat.le_trans f4_0 K8.1
  have f9_1 := f4_1.keep K8
  have f9_2 := f4_2.keep K8 nin0
  have f9_3 := f4_3.keep K8 nin0
  have f9_4 := f4_4.keep K8 nin0
  have f9_5 := f4_5.keep K8
  have f9_6 := f4_6.keep K8 nin0
  have f9_7 := f4_7.keep K8 nin0
  have f9_8 := f4_8.keep K8 nin0
  have f9_9 := Sta_keep0 f4_9 K8
  have f9_10 := f4_10.trans K8 all0
  have N8 := Fr.app N3 N8q
  refine Wp.back (U' := (T8.setTop (mkF m 42 #[.val (.ref ar), .val (.ref br), .val (.int (n1 - (1 : Int32))), .val (.ref a1), .val (.ref a2), .val (.int 0), .val (.int 1), .unset] [(.int 0)]))) (fun t k => st8.trans k) ?_
  refine Wp.back (U' := (T8.setTop (mkF m 47 #[.val (.ref ar), .val (.ref br), .val (.int (n1 - (1 : Int32))), .val (.ref a1), .val (.ref a2), .val (.int 0), .val (.int 1), .val (.int 0)] [(.ref br), (.int 0)]))) (fun t k => XS.istore X8.here hx rfl (hb hby d13_42) rfl (l' := #[.val (.ref ar), .val (.ref br), .val (.int (n1 - (1 : Int32))), .val (.ref a1), .val (.ref a2), .val (.int 0), .val (.int 1), .val (.int 0)]) rfl (XS.iload X8.here hx rfl (hb hby d13_44) rfl (XS.aloadN X8.here hx rfl (hb hby d13_46) rfl rfl k))) ?_
  obtain ⟨cq10, kq10, q10a, q10b, q10c⟩ := isOf hZ rfl f9_5
  obtain ⟨_, _, ⟨T10, L10, k10, n10⟩, -, X10, ⟨Lc10, hQ10, l10, y10, z10⟩, st10⟩ := X8.virtualBack hx (y := Y7) (z := Y7) hown (mvT hZ (ow hw 56 rfl)) (mvT hZ (ow hw 57 rfl)) (notFace_of_selects (args := #[]) (mvT hZ (ow hw 59 rfl))) (mvT hZ (ow hw 59 rfl)) (mvT hZ (ow hw 58 rfl)) (by decide) (backOf (W := 1) (rm_cod l Z a0 hw [] br cs T8.heap n0 f9_0 f9_7 f9_9 hcs) hZ (ow hw 60 rfl) (ow hw 11 rfl) (by decide) (by decide)) q10a q10c (g := (mkF m 47 #[.val (.ref ar), .val (.ref br), .val (.int (n1 - (1 : Int32))), .val (.ref a1), .val (.ref a2), .val (.int 0), .val (.int 1), .val (.int 0)] [(.ref br), (.int 0)])) rfl (by rw [hml]; rfl) (Steps.refl _) (argsL := []) (rest := [(.int 0)]) (lenOf pd_2 rfl) rfl (Nat.le_of_eq rfl) (hb hby d13_47) (fun _ _ => ⟨rfl, rfl, (by decide : 0 + 0 ≤ _), (by decide : 0 + 0 ≤ _)⟩)
  dsimp only [Pt.U, Pt.locs, Pt.cells, Pt.slots] at X10 l10 y10 z10 st10 hQ10
  subst l10 y10 z10
  obtain ⟨rfl, N10q, K10⟩ := hQ10
  have f11_0 := Nat.le_trans f9_0 K10.1
  have f11_1 := f9_1.keep K10
  have f11_2 := f9_2.keep K10 nin0
  have f11_3 := f9_3.keep K10 nin0
  have f11_4 := f9_4.keep K10 nin0
  have f11_5 := f9_5.keep K10
  have f11_6 := f9_6.keep K10 nin0
  have f11_7 := f9_7.keep K10 nin0
  have f11_8 := f9_8.keep K10 nin0
  have f11_9 := Sta_keep0 f9_9 K10
  have f11_10 := f9_10.trans K10 all0
  have N10 := Fr.app N8 N10q
  refine Wp.back (U' := (T10.setTop (mkF m 50 #[.val (.ref ar), .val (.ref br), .val (.int (n1 - (1 : Int32))), .val (.ref a1), .val (.ref a2), .val (.int 0), .val (.int 1), .val (.int 0)] [(.int 0), (.int 0)]))) (fun t k => st10.trans k) ?_
  refine Wp.back (U' := (T10.setTop (mkF m 70 #[.val (.ref ar), .val (.ref br), .val (.int (n1 - (1 : Int32))), .val (.ref a1), .val (.ref a2), .val (.int 0), .val (.int 1), .val (.int 0)] [(.int 1), (.int 0), (.ref a2), (.int (n1 - (1 : Int32))), (.ref a1)]))) (fun t k => XS.icmpNo X10.here hx rfl (hb hby d13_50) rfl (teq (by decide)).2 (XS.iload X10.here hx rfl (hb hby d13_53) rfl (XT.iconstV X10.here hx rfl 1 (hb hby d13_55) (by decide) (XS.icmpYes X10.here hx rfl (pc0 := 56) (pc' := 63) rfl (hb hby d13_56) rfl (feq (by decide)).2 (by decide) (by decide) (XS.aloadN X10.here hx rfl (hb hby d13_63) rfl rfl (XS.iloadN X10.here hx rfl (hb hby d13_64) rfl (XS.aload X10.here hx rfl (hb hby d13_65) rfl rfl (XT.iconstV X10.here hx rfl 0 (hb hby d13_67) (by decide) (XS.iload X10.here hx rfl (hb hby d13_68) rfl k))))))))) ?_
  obtain ⟨_, _, ⟨T12, L12, k12, n12⟩, -, X12, ⟨Lc12, hQ12, l12, y12, z12⟩, st12⟩ := Jvm.LawKit.callS X10 hx (y := Y12) hown (mvT hZ (ow hw 66 rfl)) (mvT hZ (ow hw 67 rfl)) (mvT hZ (ow hw 68 rfl)) (mvT hZ (ow hw 69 rfl)) (by decide) (backOf (W := 0) (rm_mme l Z a0 hw [] a1 (n1 - (1 : Int32)) a2 k1 n1 vs1 dv1 k2 dv2 vx T10.heap n0 f11_0 f11_4 f11_8 hj0 hj1 hg hv) hZ (ow hw 69 rfl) (ow hw 68 rfl) (by decide) (by decide)) (g := (mkF m 70 #[.val (.ref ar), .val (.ref br), .val (.int (n1 - (1 : Int32))), .val (.ref a1), .val (.ref a2), .val (.int 0), .val (.int 1), .val (.int 0)] [(.int 1), (.int 0), (.ref a2), (.int (n1 - (1 : Int32))), (.ref a1)])) rfl (by rw [hml]; rfl) (argsL := [(.ref a1), (.int (n1 - (1 : Int32))), (.ref a2), (.int 0), (.int 1)]) (rest := []) (lenOf pd_7 rfl) rfl (Nat.le_of_eq rfl) (hb hby d13_70) (fun _ _ => ⟨rfl, rfl, (by decide : 0 + 0 ≤ _), (by decide : 0 + 0 ≤ _)⟩)
  dsimp only [Pt.U, Pt.locs, Pt.cells, Pt.slots] at X12 l12 y12 z12 st12 hQ12
  subst l12 y12 z12
  obtain ⟨rfl, N12q, K12⟩ := hQ12
  have f13_0 := Nat.le_trans f11_0 K12.1
  have f13_1 := f11_1.keep K12
  have f13_2 := f11_2.keep K12 nin0
  have f13_3 := f11_3.keep K12 nin0
  have f13_4 := f11_4.keep K12 nin0
  have f13_5 := f11_5.keep K12
  have f13_6 := f11_6.keep K12 nin0
  have f13_7 := f11_7.keep K12 nin0
  have f13_8 := f11_8.keep K12 nin0
  have f13_9 := Sta_keep0 f11_9 K12
  have f13_10 := f11_10.trans K12 all0
  have N12 := Fr.app N10 N12q
  refine Wp.back (U' := (T12.setTop (mkF m 73 #[.val (.ref ar), .val (.ref br), .val (.int (n1 - (1 : Int32))), .val (.ref a1), .val (.ref a2), .val (.int 0), .val (.int 1), .val (.int 0)] [(.int (-1 : Int32))]))) st12 ?_
  refine Wp.back (U' := (T12.setTop (mkF m 81 #[.val (.ref ar), .val (.ref br), .val (.int (n1 - (1 : Int32))), .val (.ref a1), .val (.ref a2), .val (.int 0), .val (.int 1), .val (.int 0)] [(.int 1)]))) (fun t k => XS.ifNo X12.here hx rfl (hb hby d13_73) rfl ((if0 _ _).trans (tlt (by decide)).2.1) (XT.iconstV X12.here hx rfl 1 (hb hby d13_76) (by decide) (XS.goto X12.here hx rfl (pc0 := 77) (pc' := 81) rfl (hb hby d13_77) (by decide) (by decide) k))) ?_
  obtain ⟨fs, hr, hrun, hended, hW, hsame⟩ := X12.leave (v := (some (.int 1))) (fun h => by rw [hret] at h; cases h)
  refine Wp.done (retN X12 hx (t := .boolean) hret (by simp) (hb hby d13_81) hr) hrun hended ⟨_, _, rfl, ?_, ⟨_, rfl⟩, hW, hsame.mono (by decide) (by decide)⟩
  show Q_swe Z ar br a1 k1 n1 vs1 dv1 a2 k2 dv2 vx cs h0 n0 _ T12.heap _
  exact ⟨rfl, N12, f13_10⟩
def Q_ewe (Z : State) (ar : Addr) (br : Addr) (a1 : Addr) (k1 : ClassId) (n1 : Int32) (vs1 : List Value) (dv1 : Value) (a2 : Addr) (k2 : ClassId) (dv2 : Value) (vx : Int32) (cs : Int32) (h0 : Heap) (n0 : Nat) (v : Option Value) (h : Heap) (L : List Loc) : Prop := v = some (.int 1) ∧ Fr n0 L ∧ Keep h0 h []
theorem d10_0 : decode jdk_42_method_77_code 0 = .ok (.aload_n 0, 1) := by decide +kernel
theorem d10_1 : decode jdk_42_method_77_code 1 = .ok (.aload_n 1, 1) := by decide +kernel
theorem d10_2 : decode jdk_42_method_77_code 2 = .ok (.aload_n 0, 1) := by decide +kernel
theorem d10_3 : decode jdk_42_method_77_code 3 = .ok (.invokevirtual 505, 3) := by decide +kernel
theorem d10_6 : decode jdk_42_method_77_code 6 = .ok (.aload_n 1, 1) := by decide +kernel
theorem d10_7 : decode jdk_42_method_77_code 7 = .ok (.invokevirtual 505, 3) := by decide +kernel
theorem d10_10 : decode jdk_42_method_77_code 10 = .ok (.isub, 1) := by decide +kernel
theorem d10_11 : decode jdk_42_method_77_code 11 = .ok (.invokevirtual 624, 3) := by decide +kernel
theorem d10_14 : decode jdk_42_method_77_code 14 = .ok (.ireturn, 1) := by decide +kernel
theorem pd_8 : parseMethodDescriptor "(Ljava/lang/String;I)Z" = some ⟨[(.object "java/lang/String"), .int], some .boolean⟩ := by decide +kernel
theorem pn10 : plainName "java/lang/String" = true := by first | (simp [plainName, overriddenIn]; done) | decide +kernel
theorem ef10_RR (m : MethodId) (x0 : Addr) (x1 : Addr) : entryFrame m #[(.ref x0), (.ref x1)] 2 = mkF m 0 #[.val (.ref x0), .val (.ref x1)] [] := by first | (simp [entryFrame, mkF, argsToLocals, Value.category]; done) | rfl
set_option maxRecDepth 65536 in
set_option maxHeartbeats 40000000 in
theorem rm_ewe (l : Launch) (Z : State) (a0 : Array Value) (hw : ∀ d ∈ tables_1, d.before a0 Z = true) (ws : List Jvm.Cond) (ar : Addr) (br : Addr) (a1 : Addr) (k1 : ClassId) (n1 : Int32) (vs1 : List Value) (dv1 : Value) (a2 : Addr) (k2 : ClassId) (dv2 : Value) (vx : Int32) (cs : Int32) (h0 : Heap) (n0 : Nat) (Z0 : n0 ≤ h0.size) (H0 : Exa Z h0 ar "java/lang/String") (H1 : Fld Z h0 ar "java/lang/String" "value" "[B" (.ref a1)) (H2 : Fld Z h0 ar "java/lang/String" "coder" "B" (.int 0)) (H3 : Arv Z h0 a1 k1 .byte n1 vs1 dv1) (H4 : Exa Z h0 br "java/lang/String") (H5 : Fld Z h0 br "java/lang/String" "value" "[B" (.ref a2)) (H6 : Fld Z h0 br "java/lang/String" "coder" "B" (.int 0)) (H7 : Arv Z h0 a2 k2 .byte (1 : Int32) [(.int 10)] dv2) (H8 : Sta Z h0 "java/lang/String" "COMPACT_STRINGS" "Z" (.int cs)) (hp : ¬ (n1 - (1 : Int32)) < (0 : Int32)) (hj0 : ¬ ((n1 - (1 : Int32)) + (0 : Int32)) < 0) (hj1 : ((n1 - (1 : Int32)) + (0 : Int32)) < n1) (hg : vs1.getD ((n1 - (1 : Int32)) + (0 : Int32)).toNatClampNeg dv1 = .int vx) (hv : vx = (10 : Int32)) (hcs : ¬ cs = (0 : Int32)) :
    Met l Z Y14 jdk_42_method_77_code 2 (some .boolean) ws ({ frames := 3, cells := 0, slots := 0, locals := 46 } : Room) #[(.ref ar), (.ref br)] h0 (Q_ewe Z ar br a1 k1 n1 vs1 dv1 a2 k2 dv2 vx cs h0 n0) := by
  refine own_body (plainFor_of_name pn10) ?_
  intro p e s m below meth c s₁ hx hby hret hlk hml hZ hown hnm X0 e0
  have N0 := Fr.nil n0
  refine Wp.back (U' := (s₁.setTop (mkF m 0 #[.val (.ref ar), .val (.ref br)] []))) (fun t k => castTop (ef10_RR m ar br) k) ?_
  refine Wp.back (U' := (s₁.setTop (mkF m 3 #[.val (.ref ar), .val (.ref br)] [(.ref ar), (.ref br), (.ref ar)]))) (fun t k => XS.aloadN X0.here hx rfl (hb hby d10_0) rfl rfl (XS.aloadN X0.here hx rfl (hb hby d10_1) rfl rfl (XS.aloadN X0.here hx rfl (hb hby d10_2) rfl rfl k))) ?_
  obtain ⟨cq1, kq1, q1a, q1b, q1c⟩ := isOf hZ e0 H0
  obtain ⟨_, _, ⟨T1, L1, k1, n1⟩, -, X1, ⟨Lc1, hQ1, l1, y1, z1⟩, st1⟩ := X0.virtualBack hx (y := Y9) (z := Y9) hown (mvT hZ (ow hw 51 rfl)) (mvT hZ (ow hw 52 rfl)) (notFace_of_selects (args := #[]) (mvT hZ (ow hw 54 rfl))) (mvT hZ (ow hw 54 rfl)) (mvT hZ (ow hw 53 rfl)) (by decide) (backOf (W := 2) (rm_len l Z a0 hw [] ar a1 k1 n1 vs1 dv1 cs h0 n0 Z0 H0 H1 H2 H3 H8 hcs) hZ (ow hw 55 rfl) (ow hw 11 rfl) (by decide) (by decide)) q1a q1c (g := (mkF m 3 #[.val (.ref ar), .val (.ref br)] [(.ref ar), (.ref br), (.ref ar)])) rfl (by rw [hml]; rfl) (Steps.refl _) (argsL := []) (rest := [(.ref br), (.ref ar)]) (lenOf pd_6 rfl) rfl (Nat.le_of_eq rfl) (hb hby d10_3) (fun _ _ => ⟨rfl, e0, (by decide : 0 + 0 ≤ _), (by decide : 0 + 0 ≤ _)⟩)
  dsimp only [Pt.U, Pt.locs, Pt.cells, Pt.slots] at X1 l1 y1 z1 st1 hQ1
  subst l1 y1 z1
  obtain ⟨rfl, N1q, K1⟩ := hQ1
  have f2_0 := Nat.le_trans Z0 K1.1
  have f2_1 := H0.keep K1
  have f2_2 := H1.keep K1 nin0
  have f2_3 := H2.keep K1 nin0
  have f2_4 := H3.keep K1 nin0
  have f2_5 := H4.keep K1
  have f2_6 := H5.keep K1 nin0
  have f2_7 := H6.keep K1 nin0
  have f2_8 := H7.keep K1 nin0
  have f2_9 := Sta_keep0 H8 K1
  have f2_10 := (Keep.refl h0 []).trans K1 all0
  have N1 := Fr.app N0 N1q
  refine Wp.back (U' := (T1.setTop (mkF m 6 #[.val (.ref ar), .val (.ref br)] [(.int n1), (.ref br), (.ref ar)]))) (fun t k => st1.trans k) ?_
  refine Wp.back (U' := (T1.setTop (mkF m 7 #[.val (.ref ar), .val (.ref br)] [(.ref br), (.int n1), (.ref br), (.ref ar)]))) (fun t k => XS.aloadN X1.here hx rfl (hb hby d10_6) rfl rfl k) ?_
  obtain ⟨cq3, kq3, q3a, q3b, q3c⟩ := isOf hZ rfl f2_5
  obtain ⟨_, _, ⟨T3, L3, k3, n3⟩, -, X3, ⟨Lc3, hQ3, l3, y3, z3⟩, st3⟩ := X1.virtualBack hx (y := Y9) (z := Y9) hown (mvT hZ (ow hw 51 rfl)) (mvT hZ (ow hw 52 rfl)) (notFace_of_selects (args := #[]) (mvT hZ (ow hw 54 rfl))) (mvT hZ (ow hw 54 rfl)) (mvT hZ (ow hw 53 rfl)) (by decide) (backOf (W := 3) (rm_len l Z a0 hw [] br a2 k2 (1 : Int32) [(.int 10)] dv2 cs T1.heap n0 f2_0 f2_5 f2_6 f2_7 f2_8 f2_9 hcs) hZ (ow hw 55 rfl) (ow hw 11 rfl) (by decide) (by decide)) q3a q3c (g := (mkF m 7 #[.val (.ref ar), .val (.ref br)] [(.ref br), (.int n1), (.ref br), (.ref ar)])) rfl (by rw [hml]; rfl) (Steps.refl _) (argsL := []) (rest := [(.int n1), (.ref br), (.ref ar)]) (lenOf pd_6 rfl) rfl (Nat.le_of_eq rfl) (hb hby d10_7) (fun _ _ => ⟨rfl, rfl, (by decide : 0 + 0 ≤ _), (by decide : 0 + 0 ≤ _)⟩)
  dsimp only [Pt.U, Pt.locs, Pt.cells, Pt.slots] at X3 l3 y3 z3 st3 hQ3
  subst l3 y3 z3
  obtain ⟨rfl, N3q, K3⟩ := hQ3
  have f4_0 := Nat.le_trans f2_0 K3.1
  have f4_1 := f2_1.keep K3
  have f4_2 := f2_2.keep K3 nin0
  have f4_3 := f2_3.keep K3 nin0
  have f4_4 := f2_4.keep K3 nin0
  have f4_5 := f2_5.keep K3
  have f4_6 := f2_6.keep K3 nin0
  have f4_7 := f2_7.keep K3 nin0
  have f4_8 := f2_8.keep K3 nin0
  have f4_9 := Sta_keep0 f2_9 K3
  have f4_10 := f2_10.trans K3 all0
  have N3 := Fr.app N1 N3q
  refine Wp.back (U' := (T3.setTop (mkF m 10 #[.val (.ref ar), .val (.ref br)] [(.int 1), (.int n1), (.ref br), (.ref ar)]))) (fun t k => st3.trans k) ?_
  refine Wp.back (U' := (T3.setTop (mkF m 11 #[.val (.ref ar), .val (.ref br)] [(.int (n1 - (1 : Int32))), (.ref br), (.ref ar)]))) (fun t k => XS.isub X3.here hx rfl (hb hby d10_10) rfl k) ?_
  obtain ⟨cq5, kq5, q5a, q5b, q5c⟩ := isOf hZ rfl f4_1
  obtain ⟨_, _, ⟨T5, L5, k5, n5⟩, -, X5, ⟨Lc5, hQ5, l5, y5, z5⟩, st5⟩ := X3.virtualBack hx (y := Y13) (z := Y13) hown (mvT hZ (ow hw 61 rfl)) (mvT hZ (ow hw 62 rfl)) (notFace_of_selects (args := #[]) (mvT hZ (ow hw 64 rfl))) (mvT hZ (ow hw 64 rfl)) (mvT hZ (ow hw 63 rfl)) (by decide) (backOf (W := 0) (rm_swe l Z a0 hw [] ar br a1 k1 n1 vs1 dv1 a2 k2 dv2 vx cs T3.heap n0 f4_0 f4_1 f4_2 f4_3 f4_4 f4_5 f4_6 f4_7 f4_8 f4_9 hp hj0 hj1 hg hv hcs) hZ (ow hw 65 rfl) (ow hw 11 rfl) (by decide) (by decide)) q5a q5c (g := (mkF m 11 #[.val (.ref ar), .val (.ref br)] [(.int (n1 - (1 : Int32))), (.ref br), (.ref ar)])) rfl (by rw [hml]; rfl) (Steps.refl _) (argsL := [(.ref br), (.int (n1 - (1 : Int32)))]) (rest := []) (lenOf pd_8 rfl) rfl (Nat.le_of_eq rfl) (hb hby d10_11) (fun _ _ => ⟨rfl, rfl, (by decide : 0 + 0 ≤ _), (by decide : 0 + 0 ≤ _)⟩)
  dsimp only [Pt.U, Pt.locs, Pt.cells, Pt.slots] at X5 l5 y5 z5 st5 hQ5
  subst l5 y5 z5
  obtain ⟨rfl, N5q, K5⟩ := hQ5
  have f6_0 := Nat.le_trans f4_0 K5.1
  have f6_1 := f4_1.keep K5
  have f6_2 := f4_2.keep K5 nin0
  have f6_3 := f4_3.keep K5 nin0
  have f6_4 := f4_4.keep K5 nin0
  have f6_5 := f4_5.keep K5
  have f6_6 := f4_6.keep K5 nin0
  have f6_7 := f4_7.keep K5 nin0
  have f6_8 := f4_8.keep K5 nin0
  have f6_9 := Sta_keep0 f4_9 K5
  have f6_10 := f4_10.trans K5 all0
  have N5 := Fr.app N3 N5q
  refine Wp.back (U' := (T5.setTop (mkF m 14 #[.val (.ref ar), .val (.ref br)] [(.int 1)]))) (fun t k => st5.trans k) ?_
  obtain ⟨fs, hr, hrun, hended, hW, hsame⟩ := X5.leave (v := (some (.int 1))) (fun h => by rw [hret] at h; cases h)
  refine Wp.done (retN X5 hx (t := .boolean) hret (by simp) (hb hby d10_14) hr) hrun hended ⟨_, _, rfl, ?_, ⟨_, rfl⟩, hW, hsame.mono (by decide) (by decide)⟩
  show Q_ewe Z ar br a1 k1 n1 vs1 dv1 a2 k2 dv2 vx cs h0 n0 _ T5.heap _
  exact ⟨rfl, N5, f6_10⟩
def Q_mmn (Z : State) (a1 : Addr) (p1 : Int32) (a2 : Addr) (k1 : ClassId) (n1 : Int32) (vs1 : List Value) (dv1 : Value) (k2 : ClassId) (dv2 : Value) (vx : Int32) (h0 : Heap) (n0 : Nat) (v : Option Value) (h : Heap) (L : List Loc) : Prop := v = some (.int 0) ∧ Fr n0 L ∧ Keep h0 h []
theorem d14_92 : decode jdk_48_method_14_code 92 = .ok (.iload 5, 2) := by decide +kernel
theorem d14_94 : decode jdk_48_method_14_code 94 = .ok (.ireturn, 1) := by decide +kernel
set_option maxRecDepth 65536 in
set_option maxHeartbeats 40000000 in
theorem rm_mmn (l : Launch) (Z : State) (a0 : Array Value) (hw : ∀ d ∈ tables_1, d.before a0 Z = true) (ws : List Jvm.Cond) (a1 : Addr) (p1 : Int32) (a2 : Addr) (k1 : ClassId) (n1 : Int32) (vs1 : List Value) (dv1 : Value) (k2 : ClassId) (dv2 : Value) (vx : Int32) (h0 : Heap) (n0 : Nat) (Z0 : n0 ≤ h0.size) (H0 : Arv Z h0 a1 k1 .byte n1 vs1 dv1) (H1 : Arv Z h0 a2 k2 .byte (1 : Int32) [(.int 10)] dv2) (hj0 : ¬ (p1 + (0 : Int32)) < 0) (hj1 : (p1 + (0 : Int32)) < n1) (hg : vs1.getD (p1 + (0 : Int32)).toNatClampNeg dv1 = .int vx) (hv : ¬ vx = (10 : Int32)) :
    Met l Z Y12 jdk_48_method_14_code 8 (some .int) ws ({ frames := 0, cells := 0, slots := 0, locals := 0 } : Room) #[(.ref a1), (.int p1), (.ref a2), (.int 0), (.int 1)] h0 (Q_mmn Z a1 p1 a2 k1 n1 vs1 dv1 k2 dv2 vx h0 n0) := by
  refine own_body (plainFor_of_name pn14) ?_
  intro p e s m below meth c s₁ hx hby hret hlk hml hZ hown hnm X0 e0
  have N0 := Fr.nil n0
  refine Wp.back (U' := (s₁.setTop (mkF m 0 #[.val (.ref a1), .val (.int p1), .val (.ref a2), .val (.int 0), .val (.int 1), .unset, .unset, .unset] []))) (fun t k => castTop (ef14_RIRII m a1 p1 a2 (0 : Int32) (1 : Int32)) k) ?_
  refine Wp.back (U' := (s₁.setTop (mkF m 82 #[.val (.ref a1), .val (.int p1), .val (.ref a2), .val (.int 0), .val (.int 1), .val (.int 0), .unset, .unset] [(.int (p1 + (0 : Int32))), (.ref a1)]))) (fun t k => XT.iconstV X0.here hx rfl 0 (hb hby d14_0) (by decide) (XS.istore X0.here hx rfl (hb hby d14_1) rfl (l' := #[.val (.ref a1), .val (.int p1), .val (.ref a2), .val (.int 0), .val (.int 1), .val (.int 0), .unset, .unset]) rfl (XS.iload X0.here hx rfl (hb hby d14_3) rfl (XT.bipushV X0.here hx rfl 7 (hb hby d14_5) (by decide) (XS.icmpYes X0.here hx rfl (pc0 := 7) (pc' := 70) rfl (hb hby d14_7) rfl (flt (by decide)).2.2.2 (by decide) (by decide) (XS.iload X0.here hx rfl (hb hby d14_70) rfl (XS.iload X0.here hx rfl (hb hby d14_72) rfl (XS.icmpNo X0.here hx rfl (hb hby d14_74) rfl (tlt (by decide)).2.1 (XS.aloadN X0.here hx rfl (hb hby d14_77) rfl rfl (XS.iloadN X0.here hx rfl (hb hby d14_78) rfl (XS.iload X0.here hx rfl (hb hby d14_79) rfl (XS.iadd X0.here hx rfl (hb hby d14_81) rfl k)))))))))))) ?_
  have vq1 := H0
  obtain ⟨cl1, Ar1, qa1, qs1, qn1, qh1, qg1⟩ := vq1
  have hin1 : ¬ ((p1 + (0 : Int32)) < 0 ∨ cl1.slots.size ≤ ((p1 + (0 : Int32))).toNatClampNeg) := inb_of qs1 ⟨hj0, hj1⟩
  have hat1 : cl1.slots[((p1 + (0 : Int32))).toNatClampNeg]? = some (.int vx) := Has.at qh1 hin1 hg
  refine Wp.back (U' := (s₁.setTop (mkF m 83 #[.val (.ref a1), .val (.int p1), .val (.ref a2), .val (.int 0), .val (.int 1), .val (.int 0), .unset, .unset] [(.int vx)]))) (fun t k => X0.baloadBytes hx (j := (p1 + (0 : Int32))) (v := (.int vx)) (by rw [e0]; exact Ar1.1) (State.isArrayOf_alike hZ.alike Ar1.2.1) Ar1.2.2 hin1 hat1 (g := (mkF m 82 #[.val (.ref a1), .val (.int p1), .val (.ref a2), .val (.int 0), .val (.int 1), .val (.int 0), .unset, .unset] [(.int (p1 + (0 : Int32))), (.ref a1)])) rfl rfl (hb hby d14_82) t k) ?_
  refine Wp.back (U' := (s₁.setTop (mkF m 88 #[.val (.ref a1), .val (.int p1), .val (.ref a2), .val (.int 0), .val (.int 1), .val (.int 0), .unset, .unset] [(.int 0), (.ref a2), (.int vx)]))) (fun t k => XS.aloadN X0.here hx rfl (hb hby d14_83) rfl rfl (XS.iloadN X0.here hx rfl (hb hby d14_84) rfl (XS.iload X0.here hx rfl (hb hby d14_85) rfl (XS.iadd X0.here hx rfl (hb hby d14_87) rfl k)))) ?_
  have vq2 := H1
  obtain ⟨cl2, Ar2, qa2, qs2, qn2, qh2, qg2⟩ := vq2
  have hin2 : ¬ ((0 : Int32) < 0 ∨ cl2.slots.size ≤ ((0 : Int32)).toNatClampNeg) := inb_of qs2 ⟨by decide, by decide⟩
  have hat2 : cl2.slots[((0 : Int32)).toNatClampNeg]? = some (.int 10) := Has.at qh2 hin2 rfl
  refine Wp.back (U' := (s₁.setTop (mkF m 89 #[.val (.ref a1), .val (.int p1), .val (.ref a2), .val (.int 0), .val (.int 1), .val (.int 0), .unset, .unset] [(.int 10), (.int vx)]))) (fun t k => X0.baloadBytes hx (j := (0 : Int32)) (v := (.int 10)) (by rw [e0]; exact Ar2.1) (State.isArrayOf_alike hZ.alike Ar2.2.1) Ar2.2.2 hin2 hat2 (g := (mkF m 88 #[.val (.ref a1), .val (.int p1), .val (.ref a2), .val (.int 0), .val (.int 1), .val (.int 0), .unset, .unset] [(.int 0), (.ref a2), (.int vx)])) rfl rfl (hb hby d14_88) t k) ?_
  refine Wp.back (U' := (s₁.setTop (mkF m 94 #[.val (.ref a1), .val (.int p1), .val (.ref a2), .val (.int 0), .val (.int 1), .val (.int 0), .unset, .unset] [(.int 0)]))) (fun t k => XS.icmpNo X0.here hx rfl (hb hby d14_89) rfl (feq hv).1 (XS.iload X0.here hx rfl (hb hby d14_92) rfl k)) ?_
  obtain ⟨fs, hr, hrun, hended, hW, hsame⟩ := X0.leave (v := (some (.int 0))) (fun h => by rw [hret] at h; cases h)
  refine Wp.done (retI X0 hx hret (hb hby d14_94) hr) hrun hended ⟨_, _, rfl, ?_, ⟨_, rfl⟩, hW, hsame.mono (by decide) (by decide)⟩
  show Q_mmn Z a1 p1 a2 k1 n1 vs1 dv1 k2 dv2 vx h0 n0 _ s₁.heap _
  rw [e0]
  exact ⟨rfl, N0, (Keep.refl h0 [])⟩
def Q_swn (Z : State) (ar : Addr) (br : Addr) (a1 : Addr) (k1 : ClassId) (n1 : Int32) (vs1 : List Value) (dv1 : Value) (a2 : Addr) (k2 : ClassId) (dv2 : Value) (vx : Int32) (cs : Int32) (h0 : Heap) (n0 : Nat) (v : Option Value) (h : Heap) (L : List Loc) : Prop := v = some (.int 0) ∧ Fr n0 L ∧ Keep h0 h []
theorem d13_80 : decode jdk_42_method_75_code 80 = .ok (.iconst 0, 1) := by decide +kernel
set_option maxRecDepth 65536 in
set_option maxHeartbeats 40000000 in
theorem rm_swn (l : Launch) (Z : State) (a0 : Array Value) (hw : ∀ d ∈ tables_1, d.before a0 Z = true) (ws : List Jvm.Cond) (ar : Addr) (br : Addr) (a1 : Addr) (k1 : ClassId) (n1 : Int32) (vs1 : List Value) (dv1 : Value) (a2 : Addr) (k2 : ClassId) (dv2 : Value) (vx : Int32) (cs : Int32) (h0 : Heap) (n0 : Nat) (Z0 : n0 ≤ h0.size) (H0 : Exa Z h0 ar "java/lang/String") (H1 : Fld Z h0 ar "java/lang/String" "value" "[B" (.ref a1)) (H2 : Fld Z h0 ar "java/lang/String" "coder" "B" (.int 0)) (H3 : Arv Z h0 a1 k1 .byte n1 vs1 dv1) (H4 : Exa Z h0 br "java/lang/String") (H5 : Fld Z h0 br "java/lang/String" "value" "[B" (.ref a2)) (H6 : Fld Z h0 br "java/lang/String" "coder" "B" (.int 0)) (H7 : Arv Z h0 a2 k2 .byte (1 : Int32) [(.int 10)] dv2) (H8 : Sta Z h0 "java/lang/String" "COMPACT_STRINGS" "Z" (.int cs)) (hp : ¬ (n1 - (1 : Int32)) < (0 : Int32)) (hj0 : ¬ ((n1 - (1 : Int32)) + (0 : Int32)) < 0) (hj1 : ((n1 - (1 : Int32)) + (0 : Int32)) < n1) (hg : vs1.getD ((n1 - (1 : Int32)) + (0 : Int32)).toNatClampNeg dv1 = .int vx) (hv : ¬ vx = (10 : Int32)) (hcs : ¬ cs = (0 : Int32)) :
    Met l Z Y13 jdk_42_method_75_code 8 (some .boolean) ws ({ frames := 2, cells := 0, slots := 0, locals := 27 } : Room) #[(.ref ar), (.ref br), (.int (n1 - (1 : Int32)))] h0 (Q_swn Z ar br a1 k1 n1 vs1 dv1 a2 k2 dv2 vx cs h0 n0) := by
  refine own_body (plainFor_of_name pn13) ?_
  intro p e s m below meth c s₁ hx hby hret hlk hml hZ hown hnm X0 e0
  have N0 := Fr.nil n0
  refine Wp.back (U' := (s₁.setTop (mkF m 0 #[.val (.ref ar), .val (.ref br), .val (.int (n1 - (1 : Int32))), .unset, .unset, .unset, .unset, .unset] []))) (fun t k => castTop (ef13_RRI m ar br (n1 - (1 : Int32))) k) ?_
  refine Wp.back (U' := (s₁.setTop (mkF m 6 #[.val (.ref ar), .val (.ref br), .val (.int (n1 - (1 : Int32))), .unset, .unset, .unset, .unset, .unset] [(.ref ar), (.int (n1 - (1 : Int32)))]))) (fun t k => XS.iloadN X0.here hx rfl (hb hby d13_0) rfl (XS.ifNo X0.here hx rfl (hb hby d13_1) rfl ((if0 _ _).trans (flt hp).1) (XS.iloadN X0.here hx rfl (hb hby d13_4) rfl (XS.aloadN X0.here hx rfl (hb hby d13_5) rfl rfl k)))) ?_
  obtain ⟨cq1, kq1, q1a, q1b, q1c⟩ := isOf hZ e0 H0
  obtain ⟨_, _, ⟨T1, L1, k1, n1⟩, -, X1, ⟨Lc1, hQ1, l1, y1, z1⟩, st1⟩ := X0.virtualBack hx (y := Y9) (z := Y9) hown (mvT hZ (ow hw 51 rfl)) (mvT hZ (ow hw 52 rfl)) (notFace_of_selects (args := #[]) (mvT hZ (ow hw 54 rfl))) (mvT hZ (ow hw 54 rfl)) (mvT hZ (ow hw 53 rfl)) (by decide) (backOf (W := 1) (rm_len l Z a0 hw [] ar a1 k1 n1 vs1 dv1 cs h0 n0 Z0 H0 H1 H2 H3 H8 hcs) hZ (ow hw 55 rfl) (ow hw 11 rfl) (by decide) (by decide)) q1a q1c (g := (mkF m 6 #[.val (.ref ar), .val (.ref br), .val (.int (n1 - (1 : Int32))), .unset, .unset, .unset, .unset, .unset] [(.ref ar), (.int (n1 - (1 : Int32)))])) rfl (by rw [hml]; rfl) (Steps.refl _) (argsL := []) (rest := [(.int (n1 - (1 : Int32)))]) (lenOf pd_6 rfl) rfl (Nat.le_of_eq rfl) (hb hby d13_6) (fun _ _ => ⟨rfl, e0, (by decide : 0 + 0 ≤ _), (by decide : 0 + 0 ≤ _)⟩)
  dsimp only [Pt.U, Pt.locs, Pt.cells, Pt.slots] at X1 l1 y1 z1 st1 hQ1
  subst l1 y1 z1
  obtain ⟨rfl, N1q, K1⟩ := hQ1
  have f2_0 := Nat.le_trans Z0 K1.1
  have f2_1 := H0.keep K1
  have f2_2 := H1.keep K1 nin0
  have f2_3 := H2.keep K1 nin0
  have f2_4 := H3.keep K1 nin0
  have f2_5 := H4.keep K1
  have f2_6 := H5.keep K1 nin0
  have f2_7 := H6.keep K1 nin0
  have f2_8 := H7.keep K1 nin0
  have f2_9 := Sta_keep0 H8 K1
  have f2_10 := (Keep.refl h0 []).trans K1 all0
  have N1 := Fr.app N0 N1q
  refine Wp.back (U' := (T1.setTop (mkF m 9 #[.val (.ref ar), .val (.ref br), .val (.int (n1 - (1 : Int32))), .unset, .unset, .unset, .unset, .unset] [(.int n1), (.int (n1 - (1 : Int32)))]))) (fun t k => st1.trans k) ?_
  refine Wp.back (U' := (T1.setTop (mkF m 10 #[.val (.ref ar), .val (.ref br), .val (.int (n1 - (1 : Int32))), .unset, .unset, .unset, .unset, .unset] [(.ref br), (.int n1), (.int (n1 - (1 : Int32)))]))) (fun t k => XS.aloadN X1.here hx rfl (hb hby d13_9) rfl rfl k) ?_
  obtain ⟨cq3, kq3, q3a, q3b, q3c⟩ := isOf hZ rfl f2_5
  obtain ⟨_, _, ⟨T3, L3, k3, n3⟩, -, X3, ⟨Lc3, hQ3, l3, y3, z3⟩, st3⟩ := X1.virtualBack hx (y := Y9) (z := Y9) hown (mvT hZ (ow hw 51 rfl)) (mvT hZ (ow hw 52 rfl)) (notFace_of_selects (args := #[]) (mvT hZ (ow hw 54 rfl))) (mvT hZ (ow hw 54 rfl)) (mvT hZ (ow hw 53 rfl)) (by decide) (backOf (W := 2) (rm_len l Z a0 hw [] br a2 k2 (1 : Int32) [(.int 10)] dv2 cs T1.heap n0 f2_0 f2_5 f2_6 f2_7 f2_8 f2_9 hcs) hZ (ow hw 55 rfl) (ow hw 11 rfl) (by decide) (by decide)) q3a q3c (g := (mkF m 10 #[.val (.ref ar), .val (.ref br), .val (.int (n1 - (1 : Int32))), .unset, .unset, .unset, .unset, .unset] [(.ref br), (.int n1), (.int (n1 - (1 : Int32)))])) rfl (by rw [hml]; rfl) (Steps.refl _) (argsL := []) (rest := [(.int n1), (.int (n1 - (1 : Int32)))]) (lenOf pd_6 rfl) rfl (Nat.le_of_eq rfl) (hb hby d13_10) (fun _ _ => ⟨rfl, rfl, (by decide : 0 + 0 ≤ _), (by decide : 0 + 0 ≤ _)⟩)
  dsimp only [Pt.U, Pt.locs, Pt.cells, Pt.slots] at X3 l3 y3 z3 st3 hQ3
  subst l3 y3 z3
  obtain ⟨rfl, N3q, K3⟩ := hQ3
  have f4_0 := Nat.le_trans f2_0 K3.1
  have f4_1 := f2_1.keep K3
  have f4_2 := f2_2.keep K3 nin0
  have f4_3 := f2_3.keep K3 nin0
  have f4_4 := f2_4.keep K3 nin0
  have f4_5 := f2_5.keep K3
  have f4_6 := f2_6.keep K3 nin0
  have f4_7 := f2_7.keep K3 nin0
  have f4_8 := f2_8.keep K3 nin0
  have f4_9 := Sta_keep0 f2_9 K3
  have f4_10 := f2_10.trans K3 all0
  have N3 := Fr.app N1 N3q
  refine Wp.back (U' := (T3.setTop (mkF m 13 #[.val (.ref ar), .val (.ref br), .val (.int (n1 - (1 : Int32))), .unset, .unset, .unset, .unset, .unset] [(.int 1), (.int n1), (.int (n1 - (1 : Int32)))]))) (fun t k => st3.trans k) ?_
  refine Wp.back (U' := (T3.setTop (mkF m 20 #[.val (.ref ar), .val (.ref br), .val (.int (n1 - (1 : Int32))), .unset, .unset, .unset, .unset, .unset] [(.ref ar)]))) (fun t k => XS.isub X3.here hx rfl (hb hby d13_13) rfl (XS.icmpYes X3.here hx rfl (pc0 := 14) (pc' := 19) rfl (hb hby d13_14) rfl (flt (own_irrefl _)).2.2.2 (by decide) (by decide) (XS.aloadN X3.here hx rfl (hb hby d13_19) rfl rfl k))) ?_
  obtain ⟨T5, X5, e5, st5⟩ := getF X3 hx hZ hown (host := "") (Or.inl (ow hw 36 rfl)) Via.refl rfl f4_2 (g := (mkF m 20 #[.val (.ref ar), .val (.ref br), .val (.int (n1 - (1 : Int32))), .unset, .unset, .unset, .unset, .unset] [(.ref ar)])) rfl rfl (hb hby d13_20)
  refine Wp.back (U' := (T5.setTop (mkF m 23 #[.val (.ref ar), .val (.ref br), .val (.int (n1 - (1 : Int32))), .unset, .unset, .unset, .unset, .unset] [(.ref a1)]))) st5 ?_
  refine Wp.back (U' := (T5.setTop (mkF m 25 #[.val (.ref ar), .val (.ref br), .val (.int (n1 - (1 : Int32))), .val (.ref a1), .unset, .unset, .unset, .unset] [(.ref br)]))) (fun t k => XS.astoreN X5.here hx rfl (hb hby d13_23) rfl rfl (l' := #[.val (.ref ar), .val (.ref br), .val (.int (n1 - (1 : Int32))), .val (.ref a1), .unset, .unset, .unset, .unset]) rfl (XS.aloadN X5.here hx rfl (hb hby d13_24) rfl rfl k)) ?_
  obtain ⟨T6, X6, e6, st6⟩ := getF X5 hx hZ hown (host := "") (Or.inl (ow hw 36 rfl)) Via.refl e5 f4_6 (g := (mkF m 25 #[.val (.ref ar), .val (.ref br), .val (.int (n1 - (1 : Int32))), .val (.ref a1), .unset, .unset, .unset, .unset] [(.ref br)])) rfl rfl (hb hby d13_25)
  refine Wp.back (U' := (T6.setTop (mkF m 28 #[.val (.ref ar), .val (.ref br), .val (.int (n1 - (1 : Int32))), .val (.ref a1), .unset, .unset, .unset, .unset] [(.ref a2)]))) st6 ?_
  refine Wp.back (U' := (T6.setTop (mkF m 35 #[.val (.ref ar), .val (.ref br), .val (.int (n1 - (1 : Int32))), .val (.ref a1), .val (.ref a2), .val (.int 0), .unset, .unset] [(.ref a2)]))) (fun t k => XS.astore X6.here hx rfl (hb hby d13_28) rfl rfl (l' := #[.val (.ref ar), .val (.ref br), .val (.int (n1 - (1 : Int32))), .val (.ref a1), .val (.ref a2), .unset, .unset, .unset]) rfl (XT.iconstV X6.here hx rfl 0 (hb hby d13_30) (by decide) (XS.istore X6.here hx rfl (hb hby d13_31) rfl (l' := #[.val (.ref ar), .val (.ref br), .val (.int (n1 - (1 : Int32))), .val (.ref a1), .val (.ref a2), .val (.int 0), .unset, .unset]) rfl (XS.aload X6.here hx rfl (hb hby d13_33) rfl rfl k)))) ?_
  have vq7 := f4_8
  obtain ⟨cl7, Ar7, -, qs7, qn7, -, -⟩ := vq7
  refine Wp.back (U' := (T6.setTop (mkF m 36 #[.val (.ref ar), .val (.ref br), .val (.int (n1 - (1 : Int32))), .val (.ref a1), .val (.ref a2), .val (.int 0), .unset, .unset] [(.int 1)]))) (fun t k => X6.arraylength hx (by rw [e6]; exact Ar7.1) (State.isArrayOf_alike hZ.alike Ar7.2.1) (g := (mkF m 35 #[.val (.ref ar), .val (.ref br), .val (.int (n1 - (1 : Int32))), .val (.ref a1), .val (.ref a2), .val (.int 0), .unset, .unset] [(.ref a2)])) rfl rfl (hb hby d13_35) t (by rw [len_of qs7 qn7]; exact k)) ?_
  refine Wp.back (U' := (T6.setTop (mkF m 39 #[.val (.ref ar), .val (.ref br), .val (.int (n1 - (1 : Int32))), .val (.ref a1), .val (.ref a2), .val (.int 0), .val (.int 1), .unset] [(.ref ar)]))) (fun t k => XS.istore X6.here hx rfl (hb hby d13_36) rfl (l' := #[.val (.ref ar), .val (.ref br), .val (.int (n1 - (1 : Int32))), .val (.ref a1), .val (.ref a2), .val (.int 0), .val (.int 1), .unset]) rfl (XS.aloadN X6.here hx rfl (hb hby d13_38) rfl rfl k)) ?_
  obtain ⟨cq8, kq8, q8a, q8b, q8c⟩ := isOf hZ e6 f4_1
  obtain ⟨_, _, ⟨T8, L8, k8, n8⟩, -, X8, ⟨Lc8, hQ8, l8, y8, z8⟩, st8⟩ := X6.virtualBack hx (y := Y7) (z := Y7) hown (mvT hZ (ow hw 56 rfl)) (mvT hZ (ow hw 57 rfl)) (notFace_of_selects (args := #[]) (mvT hZ (ow hw 59 rfl))) (mvT hZ (ow hw 59 rfl)) (mvT hZ (ow hw 58 rfl)) (by decide) (backOf (W := 0) (rm_cod l Z a0 hw [] ar cs T3.heap n0 f4_0 f4_3 f4_9 hcs) hZ (ow hw 60 rfl) (ow hw 11 rfl) (by decide) (by decide)) q8a q8c (g := (mkF m 39 #[.val (.ref ar), .val (.ref br), .val (.int (n1 - (1 : Int32))), .val (.ref a1), .val (.ref a2), .val (.int 0), .val (.int 1), .unset] [(.ref ar)])) rfl (by rw [hml]; rfl) (Steps.refl _) (argsL := []) (rest := []) (lenOf pd_2 rfl) rfl (Nat.le_of_eq rfl) (hb hby d13_39) (fun _ _ => ⟨rfl, e6, (by decide : 0 + 0 ≤ _), (by decide : 0 + 0 ≤ _)⟩)
  dsimp only [Pt.U, Pt.locs, Pt.cells, Pt.slots] at X8 l8 y8 z8 st8 hQ8
  subst l8 y8 z8
  obtain ⟨rfl, N8q, K8⟩ := hQ8
  have f9_0 := Nat.le_trans f4_0 K8.1
  have f9_1 := f4_1.keep K8
  have f9_2 := f4_2.keep K8 nin0
  have f9_3 := f4_3.keep K8 nin0
  have f9_4 := f4_4.keep K8 nin0
  have f9_5 := f4_5.keep K8
  have f9_6 := f4_6.keep K8 nin0
  have f9_7 := f4_7.keep K8 nin0
  have f9_8 := f4_8.keep K8 nin0
  have f9_9 := Sta_keep0 f4_9 K8
  have f9_10 := f4_10.trans K8 all0
  have N8 := Fr.app N3 N8q
  refine Wp.back (U' := (T8.setTop (mkF m 42 #[.val (.ref ar), .val (.ref br), .val (.int (n1 - (1 : Int32))), .val (.ref a1), .val (.ref a2), .val (.int 0), .val (.int 1), .unset] [(.int 0)]))) (fun t k => st8.trans k) ?_
  refine Wp.back (U' := (T8.setTop (mkF m 47 #[.val (.ref ar), .val (.ref br), .val (.int (n1 - (1 : Int32))), .val (.ref a1), .val (.ref a2), .val (.int 0), .val (.int 1), .val (.int 0)] [(.ref br), (.int 0)]))) (fun t k => XS.istore X8.here hx rfl (hb hby d13_42) rfl (l' := #[.val (.ref ar), .val (.ref br), .val (.int (n1 - (1 : Int32))), .val (.ref a1), .val (.ref a2), .val (.int 0), .val (.int 1), .val (.int 0)]) rfl (XS.iload X8.here hx rfl (hb hby d13_44) rfl (XS.aloadN X8.here hx rfl (hb hby d13_46) rfl rfl k))) ?_
  obtain ⟨cq10, kq10, q10a, q10b, q10c⟩ := isOf hZ rfl f9_5
  obtain ⟨_, _, ⟨T10, L10, k10, n10⟩, -, X10, ⟨Lc10, hQ10, l10, y10, z10⟩, st10⟩ := X8.virtualBack hx (y := Y7) (z := Y7) hown (mvT hZ (ow hw 56 rfl)) (mvT hZ (ow hw 57 rfl)) (notFace_of_selects (args := #[]) (mvT hZ (ow hw 59 rfl))) (mvT hZ (ow hw 59 rfl)) (mvT hZ (ow hw 58 rfl)) (by decide) (backOf (W := 1) (rm_cod l Z a0 hw [] br cs T8.heap n0 f9_0 f9_7 f9_9 hcs) hZ (ow hw 60 rfl) (ow hw 11 rfl) (by decide) (by decide)) q10a q10c (g := (mkF m 47 #[.val (.ref ar), .val (.ref br), .val (.int (n1 - (1 : Int32))), .val (.ref a1), .val (.ref a2), .val (.int 0), .val (.int 1), .val (.int 0)] [(.ref br), (.int 0)])) rfl (by rw [hml]; rfl) (Steps.refl _) (argsL := []) (rest := [(.int 0)]) (lenOf pd_2 rfl) rfl (Nat.le_of_eq rfl) (hb hby d13_47) (fun _ _ => ⟨rfl, rfl, (by decide : 0 + 0 ≤ _), (by decide : 0 + 0 ≤ _)⟩)
  dsimp only [Pt.U, Pt.locs, Pt.cells, Pt.slots] at X10 l10 y10 z10 st10 hQ10
  subst l10 y10 z10
  obtain ⟨rfl, N10q, K10⟩ := hQ10
  have f11_0 := Nat.le_trans f9_0 K10.1
  have f11_1 := f9_1.keep K10
  have f11_2 := f9_2.keep K10 nin0
  have f11_3 := f9_3.keep K10 nin0
  have f11_4 := f9_4.keep K10 nin0
  have f11_5 := f9_5.keep K10
  have f11_6 := f9_6.keep K10 nin0
  have f11_7 := f9_7.keep K10 nin0
  have f11_8 := f9_8.keep K10 nin0
  have f11_9 := Sta_keep0 f9_9 K10
  have f11_10 := f9_10.trans K10 all0
  have N10 := Fr.app N8 N10q
  refine Wp.back (U' := (T10.setTop (mkF m 50 #[.val (.ref ar), .val (.ref br), .val (.int (n1 - (1 : Int32))), .val (.ref a1), .val (.ref a2), .val (.int 0), .val (.int 1), .val (.int 0)] [(.int 0), (.int 0)]))) (fun t k => st10.trans k) ?_
  refine Wp.back (U' := (T10.setTop (mkF m 70 #[.val (.ref ar), .val (.ref br), .val (.int (n1 - (1 : Int32))), .val (.ref a1), .val (.ref a2), .val (.int 0), .val (.int 1), .val (.int 0)] [(.int 1), (.int 0), (.ref a2), (.int (n1 - (1 : Int32))), (.ref a1)]))) (fun t k => XS.icmpNo X10.here hx rfl (hb hby d13_50) rfl (teq (by decide)).2 (XS.iload X10.here hx rfl (hb hby d13_53) rfl (XT.iconstV X10.here hx rfl 1 (hb hby d13_55) (by decide) (XS.icmpYes X10.here hx rfl (pc0 := 56) (pc' := 63) rfl (hb hby d13_56) rfl (feq (by decide)).2 (by decide) (by decide) (XS.aloadN X10.here hx rfl (hb hby d13_63) rfl rfl (XS.iloadN X10.here hx rfl (hb hby d13_64) rfl (XS.aload X10.here hx rfl (hb hby d13_65) rfl rfl (XT.iconstV X10.here hx rfl 0 (hb hby d13_67) (by decide) (XS.iload X10.here hx rfl (hb hby d13_68) rfl k))))))))) ?_
  obtain ⟨_, _, ⟨T12, L12, k12, n12⟩, -, X12, ⟨Lc12, hQ12, l12, y12, z12⟩, st12⟩ := Jvm.LawKit.callS X10 hx (y := Y12) hown (mvT hZ (ow hw 66 rfl)) (mvT hZ (ow hw 67 rfl)) (mvT hZ (ow hw 68 rfl)) (mvT hZ (ow hw 69 rfl)) (by decide) (backOf (W := 0) (rm_mmn l Z a0 hw [] a1 (n1 - (1 : Int32)) a2 k1 n1 vs1 dv1 k2 dv2 vx T10.heap n0 f11_0 f11_4 f11_8 hj0 hj1 hg hv) hZ (ow hw 69 rfl) (ow hw 68 rfl) (by decide) (by decide)) (g := (mkF m 70 #[.val (.ref ar), .val (.ref br), .val (.int (n1 - (1 : Int32))), .val (.ref a1), .val (.ref a2), .val (.int 0), .val (.int 1), .val (.int 0)] [(.int 1), (.int 0), (.ref a2), (.int (n1 - (1 : Int32))), (.ref a1)])) rfl (by rw [hml]; rfl) (argsL := [(.ref a1), (.int (n1 - (1 : Int32))), (.ref a2), (.int 0), (.int 1)]) (rest := []) (lenOf pd_7 rfl) rfl (Nat.le_of_eq rfl) (hb hby d13_70) (fun _ _ => ⟨rfl, rfl, (by decide : 0 + 0 ≤ _), (by decide : 0 + 0 ≤ _)⟩)
  dsimp only [Pt.U, Pt.locs, Pt.cells, Pt.slots] at X12 l12 y12 z12 st12 hQ12
  subst l12 y12 z12
  obtain ⟨rfl, N12q, K12⟩ := hQ12
  have f13_0 := Nat.le_trans f11_0 K12.1
  have f13_1 := f11_1.keep K12
  have f13_2 := f11_2.keep K12 nin0
  have f13_3 := f11_3.keep K12 nin0
  have f13_4 := f11_4.keep K12 nin0
  have f13_5 := f11_5.keep K12
  have f13_6 := f11_6.keep K12 nin0
  have f13_7 := f11_7.keep K12 nin0
  have f13_8 := f11_8.keep K12 nin0
  have f13_9 := Sta_keep0 f11_9 K12
  have f13_10 := f11_10.trans K12 all0
  have N12 := Fr.app N10 N12q
  refine Wp.back (U' := (T12.setTop (mkF m 73 #[.val (.ref ar), .val (.ref br), .val (.int (n1 - (1 : Int32))), .val (.ref a1), .val (.ref a2), .val (.int 0), .val (.int 1), .val (.int 0)] [(.int 0)]))) st12 ?_
  refine Wp.back (U' := (T12.setTop (mkF m 81 #[.val (.ref ar), .val (.ref br), .val (.int (n1 - (1 : Int32))), .val (.ref a1), .val (.ref a2), .val (.int 0), .val (.int 1), .val (.int 0)] [(.int 0)]))) (fun t k => XS.ifYes X12.here hx rfl (pc0 := 73) (pc' := 80) rfl (hb hby d13_73) rfl ((if0 _ _).trans (flt (by decide)).2.1) (by decide) (by decide) (XT.iconstV X12.here hx rfl 0 (hb hby d13_80) (by decide) k)) ?_
  obtain ⟨fs, hr, hrun, hended, hW, hsame⟩ := X12.leave (v := (some (.int 0))) (fun h => by rw [hret] at h; cases h)
  refine Wp.done (retN X12 hx (t := .boolean) hret (by simp) (hb hby d13_81) hr) hrun hended ⟨_, _, rfl, ?_, ⟨_, rfl⟩, hW, hsame.mono (by decide) (by decide)⟩
  show Q_swn Z ar br a1 k1 n1 vs1 dv1 a2 k2 dv2 vx cs h0 n0 _ T12.heap _
  exact ⟨rfl, N12, f13_10⟩
def Q_ewn (Z : State) (ar : Addr) (br : Addr) (a1 : Addr) (k1 : ClassId) (n1 : Int32) (vs1 : List Value) (dv1 : Value) (a2 : Addr) (k2 : ClassId) (dv2 : Value) (vx : Int32) (cs : Int32) (h0 : Heap) (n0 : Nat) (v : Option Value) (h : Heap) (L : List Loc) : Prop := v = some (.int 0) ∧ Fr n0 L ∧ Keep h0 h []
set_option maxRecDepth 65536 in
set_option maxHeartbeats 40000000 in
theorem rm_ewn (l : Launch) (Z : State) (a0 : Array Value) (hw : ∀ d ∈ tables_1, d.before a0 Z = true) (ws : List Jvm.Cond) (ar : Addr) (br : Addr) (a1 : Addr) (k1 : ClassId) (n1 : Int32) (vs1 : List Value) (dv1 : Value) (a2 : Addr) (k2 : ClassId) (dv2 : Value) (vx : Int32) (cs : Int32) (h0 : Heap) (n0 : Nat) (Z0 : n0 ≤ h0.size) (H0 : Exa Z h0 ar "java/lang/String") (H1 : Fld Z h0 ar "java/lang/String" "value" "[B" (.ref a1)) (H2 : Fld Z h0 ar "java/lang/String" "coder" "B" (.int 0)) (H3 : Arv Z h0 a1 k1 .byte n1 vs1 dv1) (H4 : Exa Z h0 br "java/lang/String") (H5 : Fld Z h0 br "java/lang/String" "value" "[B" (.ref a2)) (H6 : Fld Z h0 br "java/lang/String" "coder" "B" (.int 0)) (H7 : Arv Z h0 a2 k2 .byte (1 : Int32) [(.int 10)] dv2) (H8 : Sta Z h0 "java/lang/String" "COMPACT_STRINGS" "Z" (.int cs)) (hp : ¬ (n1 - (1 : Int32)) < (0 : Int32)) (hj0 : ¬ ((n1 - (1 : Int32)) + (0 : Int32)) < 0) (hj1 : ((n1 - (1 : Int32)) + (0 : Int32)) < n1) (hg : vs1.getD ((n1 - (1 : Int32)) + (0 : Int32)).toNatClampNeg dv1 = .int vx) (hv : ¬ vx = (10 : Int32)) (hcs : ¬ cs = (0 : Int32)) :
    Met l Z Y14 jdk_42_method_77_code 2 (some .boolean) ws ({ frames := 3, cells := 0, slots := 0, locals := 46 } : Room) #[(.ref ar), (.ref br)] h0 (Q_ewn Z ar br a1 k1 n1 vs1 dv1 a2 k2 dv2 vx cs h0 n0) := by
  refine own_body (plainFor_of_name pn10) ?_
  intro p e s m below meth c s₁ hx hby hret hlk hml hZ hown hnm X0 e0
  have N0 := Fr.nil n0
  refine Wp.back (U' := (s₁.setTop (mkF m 0 #[.val (.ref ar), .val (.ref br)] []))) (fun t k => castTop (ef10_RR m ar br) k) ?_
  refine Wp.back (U' := (s₁.setTop (mkF m 3 #[.val (.ref ar), .val (.ref br)] [(.ref ar), (.ref br), (.ref ar)]))) (fun t k => XS.aloadN X0.here hx rfl (hb hby d10_0) rfl rfl (XS.aloadN X0.here hx rfl (hb hby d10_1) rfl rfl (XS.aloadN X0.here hx rfl (hb hby d10_2) rfl rfl k))) ?_
  obtain ⟨cq1, kq1, q1a, q1b, q1c⟩ := isOf hZ e0 H0
  obtain ⟨_, _, ⟨T1, L1, k1, n1⟩, -, X1, ⟨Lc1, hQ1, l1, y1, z1⟩, st1⟩ := X0.virtualBack hx (y := Y9) (z := Y9) hown (mvT hZ (ow hw 51 rfl)) (mvT hZ (ow hw 52 rfl)) (notFace_of_selects (args := #[]) (mvT hZ (ow hw 54 rfl))) (mvT hZ (ow hw 54 rfl)) (mvT hZ (ow hw 53 rfl)) (by decide) (backOf (W := 2) (rm_len l Z a0 hw [] ar a1 k1 n1 vs1 dv1 cs h0 n0 Z0 H0 H1 H2 H3 H8 hcs) hZ (ow hw 55 rfl) (ow hw 11 rfl) (by decide) (by decide)) q1a q1c (g := (mkF m 3 #[.val (.ref ar), .val (.ref br)] [(.ref ar), (.ref br), (.ref ar)])) rfl (by rw [hml]; rfl) (Steps.refl _) (argsL := []) (rest := [(.ref br), (.ref ar)]) (lenOf pd_6 rfl) rfl (Nat.le_of_eq rfl) (hb hby d10_3) (fun _ _ => ⟨rfl, e0, (by decide : 0 + 0 ≤ _), (by decide : 0 + 0 ≤ _)⟩)
  dsimp only [Pt.U, Pt.locs, Pt.cells, Pt.slots] at X1 l1 y1 z1 st1 hQ1
  subst l1 y1 z1
  obtain ⟨rfl, N1q, K1⟩ := hQ1
  have f2_0 := Nat.le_trans Z0 K1.1
  have f2_1 := H0.keep K1
  have f2_2 := H1.keep K1 nin0
  have f2_3 := H2.keep K1 nin0
  have f2_4 := H3.keep K1 nin0
  have f2_5 := H4.keep K1
  have f2_6 := H5.keep K1 nin0
  have f2_7 := H6.keep K1 nin0
  have f2_8 := H7.keep K1 nin0
  have f2_9 := Sta_keep0 H8 K1
  have f2_10 := (Keep.refl h0 []).trans K1 all0
  have N1 := Fr.app N0 N1q
  refine Wp.back (U' := (T1.setTop (mkF m 6 #[.val (.ref ar), .val (.ref br)] [(.int n1), (.ref br), (.ref ar)]))) (fun t k => st1.trans k) ?_
  refine Wp.back (U' := (T1.setTop (mkF m 7 #[.val (.ref ar), .val (.ref br)] [(.ref br), (.int n1), (.ref br), (.ref ar)]))) (fun t k => XS.aloadN X1.here hx rfl (hb hby d10_6) rfl rfl k) ?_
  obtain ⟨cq3, kq3, q3a, q3b, q3c⟩ := isOf hZ rfl f2_5
  obtain ⟨_, _, ⟨T3, L3, k3, n3⟩, -, X3, ⟨Lc3, hQ3, l3, y3, z3⟩, st3⟩ := X1.virtualBack hx (y := Y9) (z := Y9) hown (mvT hZ (ow hw 51 rfl)) (mvT hZ (ow hw 52 rfl)) (notFace_of_selects (args := #[]) (mvT hZ (ow hw 54 rfl))) (mvT hZ (ow hw 54 rfl)) (mvT hZ (ow hw 53 rfl)) (by decide) (backOf (W := 3) (rm_len l Z a0 hw [] br a2 k2 (1 : Int32) [(.int 10)] dv2 cs T1.heap n0 f2_0 f2_5 f2_6 f2_7 f2_8 f2_9 hcs) hZ (ow hw 55 rfl) (ow hw 11 rfl) (by decide) (by decide)) q3a q3c (g := (mkF m 7 #[.val (.ref ar), .val (.ref br)] [(.ref br), (.int n1), (.ref br), (.ref ar)])) rfl (by rw [hml]; rfl) (Steps.refl _) (argsL := []) (rest := [(.int n1), (.ref br), (.ref ar)]) (lenOf pd_6 rfl) rfl (Nat.le_of_eq rfl) (hb hby d10_7) (fun _ _ => ⟨rfl, rfl, (by decide : 0 + 0 ≤ _), (by decide : 0 + 0 ≤ _)⟩)
  dsimp only [Pt.U, Pt.locs, Pt.cells, Pt.slots] at X3 l3 y3 z3 st3 hQ3
  subst l3 y3 z3
  obtain ⟨rfl, N3q, K3⟩ := hQ3
  have f4_0 := Nat.le_trans f2_0 K3.1
  have f4_1 := f2_1.keep K3
  have f4_2 := f2_2.keep K3 nin0
  have f4_3 := f2_3.keep K3 nin0
  have f4_4 := f2_4.keep K3 nin0
  have f4_5 := f2_5.keep K3
  have f4_6 := f2_6.keep K3 nin0
  have f4_7 := f2_7.keep K3 nin0
  have f4_8 := f2_8.keep K3 nin0
  have f4_9 := Sta_keep0 f2_9 K3
  have f4_10 := f2_10.trans K3 all0
  have N3 := Fr.app N1 N3q
  refine Wp.back (U' := (T3.setTop (mkF m 10 #[.val (.ref ar), .val (.ref br)] [(.int 1), (.int n1), (.ref br), (.ref ar)]))) (fun t k => st3.trans k) ?_
  refine Wp.back (U' := (T3.setTop (mkF m 11 #[.val (.ref ar), .val (.ref br)] [(.int (n1 - (1 : Int32))), (.ref br), (.ref ar)]))) (fun t k => XS.isub X3.here hx rfl (hb hby d10_10) rfl k) ?_
  obtain ⟨cq5, kq5, q5a, q5b, q5c⟩ := isOf hZ rfl f4_1
  obtain ⟨_, _, ⟨T5, L5, k5, n5⟩, -, X5, ⟨Lc5, hQ5, l5, y5, z5⟩, st5⟩ := X3.virtualBack hx (y := Y13) (z := Y13) hown (mvT hZ (ow hw 61 rfl)) (mvT hZ (ow hw 62 rfl)) (notFace_of_selects (args := #[]) (mvT hZ (ow hw 64 rfl))) (mvT hZ (ow hw 64 rfl)) (mvT hZ (ow hw 63 rfl)) (by decide) (backOf (W := 0) (rm_swn l Z a0 hw [] ar br a1 k1 n1 vs1 dv1 a2 k2 dv2 vx cs T3.heap n0 f4_0 f4_1 f4_2 f4_3 f4_4 f4_5 f4_6 f4_7 f4_8 f4_9 hp hj0 hj1 hg hv hcs) hZ (ow hw 65 rfl) (ow hw 11 rfl) (by decide) (by decide)) q5a q5c (g := (mkF m 11 #[.val (.ref ar), .val (.ref br)] [(.int (n1 - (1 : Int32))), (.ref br), (.ref ar)])) rfl (by rw [hml]; rfl) (Steps.refl _) (argsL := [(.ref br), (.int (n1 - (1 : Int32)))]) (rest := []) (lenOf pd_8 rfl) rfl (Nat.le_of_eq rfl) (hb hby d10_11) (fun _ _ => ⟨rfl, rfl, (by decide : 0 + 0 ≤ _), (by decide : 0 + 0 ≤ _)⟩)
  dsimp only [Pt.U, Pt.locs, Pt.cells, Pt.slots] at X5 l5 y5 z5 st5 hQ5
  subst l5 y5 z5
  obtain ⟨rfl, N5q, K5⟩ := hQ5
  have f6_0 := Nat.le_trans f4_0 K5.1
  have f6_1 := f4_1.keep K5
  have f6_2 := f4_2.keep K5 nin0
  have f6_3 := f4_3.keep K5 nin0
  have f6_4 := f4_4.keep K5 nin0
  have f6_5 := f4_5.keep K5
  have f6_6 := f4_6.keep K5 nin0
  have f6_7 := f4_7.keep K5 nin0
  have f6_8 := f4_8.keep K5 nin0
  have f6_9 := Sta_keep0 f4_9 K5
  have f6_10 := f4_10.trans K5 all0
  have N5 := Fr.app N3 N5q
  refine Wp.back (U' := (T5.setTop (mkF m 14 #[.val (.ref ar), .val (.ref br)] [(.int 0)]))) (fun t k => st5.trans k) ?_
  obtain ⟨fs, hr, hrun, hended, hW, hsame⟩ := X5.leave (v := (some (.int 0))) (fun h => by rw [hret] at h; cases h)
  refine Wp.done (retN X5 hx (t := .boolean) hret (by simp) (hb hby d10_14) hr) hrun hended ⟨_, _, rfl, ?_, ⟨_, rfl⟩, hW, hsame.mono (by decide) (by decide)⟩
  show Q_ewn Z ar br a1 k1 n1 vs1 dv1 a2 k2 dv2 vx cs h0 n0 _ T5.heap _
  exact ⟨rfl, N5, f6_10⟩
def Q_sib (Z : State) (ar : Addr) (ba : Addr)  (h0 : Heap) (n0 : Nat) (v : Option Value) (h : Heap) (L : List Loc) : Prop := v = none ∧ Fr n0 L ∧ Keep h0 h [ar] ∧ Exa Z h ar "java/lang/String" ∧ Fld Z h ar "java/lang/String" "value" "[B" (.ref ba) ∧ Fld Z h ar "java/lang/String" "coder" "B" (.int 0)
theorem d31_0 : decode jdk_42_method_151_code 0 = .ok (.aload_n 0, 1) := by decide +kernel
theorem d31_1 : decode jdk_42_method_151_code 1 = .ok (.invokespecial 1, 3) := by decide +kernel
theorem d31_4 : decode jdk_42_method_151_code 4 = .ok (.aload_n 0, 1) := by decide +kernel
theorem d31_5 : decode jdk_42_method_151_code 5 = .ok (.aload_n 1, 1) := by decide +kernel
theorem d31_6 : decode jdk_42_method_151_code 6 = .ok (.putfield 9, 3) := by decide +kernel
theorem d31_9 : decode jdk_42_method_151_code 9 = .ok (.aload_n 0, 1) := by decide +kernel
theorem d31_10 : decode jdk_42_method_151_code 10 = .ok (.iload_n 2, 1) := by decide +kernel
theorem d31_11 : decode jdk_42_method_151_code 11 = .ok (.putfield 15, 3) := by decide +kernel
theorem d31_14 : decode jdk_42_method_151_code 14 = .ok (.return_, 1) := by decide +kernel
theorem pn31 : plainName "java/lang/String" = true := by first | (simp [plainName, overriddenIn]; done) | decide +kernel
theorem ef31_RRI (m : MethodId) (x0 : Addr) (x1 : Addr) (x2 : Int32) : entryFrame m #[(.ref x0), (.ref x1), (.int x2)] 3 = mkF m 0 #[.val (.ref x0), .val (.ref x1), .val (.int x2)] [] := by first | (simp [entryFrame, mkF, argsToLocals, Value.category]; done) | rfl
set_option maxRecDepth 65536 in
set_option maxHeartbeats 40000000 in
theorem rm_sib (l : Launch) (Z : State) (a0 : Array Value) (hw : ∀ d ∈ tables_1, d.before a0 Z = true) (ws : List Jvm.Cond) (ar : Addr) (ba : Addr)  (h0 : Heap) (n0 : Nat) (Z0 : n0 ≤ h0.size) (H0 : Exa Z h0 ar "java/lang/String") (H1 : Fld Z h0 ar "java/lang/String" "value" "[B" .null) (H2 : Fld Z h0 ar "java/lang/String" "coder" "B" (.int 0)) (g_ar : n0 ≤ ar) :
    Met l Z Y15 jdk_42_method_151_code 3 none ws ({ frames := 1, cells := 0, slots := 0, locals := 12 } : Room) #[(.ref ar), (.ref ba), (.int 0)] h0 (Q_sib Z ar ba h0 n0) := by
  refine own_body (plainFor_of_name pn31) ?_
  intro p e s m below meth c s₁ hx hby hret hlk hml hZ hown hnm X0 e0
  have N0 := Fr.nil n0
  refine Wp.back (U' := (s₁.setTop (mkF m 0 #[.val (.ref ar), .val (.ref ba), .val (.int 0)] []))) (fun t k => castTop (ef31_RRI m ar ba (0 : Int32)) k) ?_
  refine Wp.back (U' := (s₁.setTop (mkF m 1 #[.val (.ref ar), .val (.ref ba), .val (.int 0)] [(.ref ar)]))) (fun t k => XS.aloadN X0.here hx rfl (hb hby d31_0) rfl rfl k) ?_
  obtain ⟨T1, X1, e1, st1⟩ := initO X0 hx hZ hown (ow hw 19 rfl) (ow hw 20 rfl) (ow hw 21 rfl) e0 (g := (mkF m 1 #[.val (.ref ar), .val (.ref ba), .val (.int 0)] [(.ref ar)])) rfl (by rw [hml]; rfl) rfl (hb hby d31_1) (by decide) (W := 0) (Nat.le_of_eq rfl) (by decide)
  refine Wp.back (U' := (T1.setTop (mkF m 4 #[.val (.ref ar), .val (.ref ba), .val (.int 0)] []))) st1 ?_
  refine Wp.back (U' := (T1.setTop (mkF m 6 #[.val (.ref ar), .val (.ref ba), .val (.int 0)] [(.ref ba), (.ref ar)]))) (fun t k => XS.aloadN X1.here hx rfl (hb hby d31_4) rfl rfl (XS.aloadN X1.here hx rfl (hb hby d31_5) rfl rfl k)) ?_
  obtain ⟨T2, h2, X2, e2, W2, st2⟩ := putF X1 hx hZ hown (host := "") (Or.inl (ow hw 36 rfl)) Via.refl e1 H1 H0 (Or.inr ⟨(ow hw 37 rfl), rfl, hnm⟩) (ow hw 10 rfl) (ty := (.array .byte)) (by decide) rfl rfl (g := (mkF m 6 #[.val (.ref ar), .val (.ref ba), .val (.int 0)] [(.ref ba), (.ref ar)])) rfl rfl (hb hby d31_6)
  have Fw2 := H1.same W2
  have f3_0 := Nat.le_trans Z0 (Keep.of_wr W2).1
  have f3_1 := H0.wr W2
  have f3_2 := H2.other W2 (Or.inr (slot_ne (Or.inr (ow hw 35 rfl)) (Or.inr (ow hw 37 rfl)) (by decide) (t := .byte) (t' := (.array .byte)) (by decide) (by decide)))
  have f3_3 := (Keep.refl h0 [ar]).wr W2 (Or.inl (List.mem_of_getElem? (i := 0) rfl))
  have N2 := Fr.snoc X2 N0 g_ar
  refine Wp.back (U' := (T2.setTop (mkF m 9 #[.val (.ref ar), .val (.ref ba), .val (.int 0)] []))) st2 ?_
  refine Wp.back (U' := (T2.setTop (mkF m 11 #[.val (.ref ar), .val (.ref ba), .val (.int 0)] [(.int 0), (.ref ar)]))) (fun t k => XS.aloadN X2.here hx rfl (hb hby d31_9) rfl rfl (XS.iloadN X2.here hx rfl (hb hby d31_10) rfl k)) ?_
  obtain ⟨T4, h4, X4, e4, W4, st4⟩ := putFN X2 hx hZ hown (ow hw 34 rfl) Via.refl e2 f3_2 f3_1 (Or.inr ⟨(ow hw 35 rfl), rfl, hnm⟩) (ow hw 10 rfl) (ty := .byte) (v' := .int (0 : Int32)) (by decide) rfl rfl (g := (mkF m 11 #[.val (.ref ar), .val (.ref ba), .val (.int 0)] [(.int 0), (.ref ar)])) rfl rfl (hb hby d31_11)
  have Fw4 := f3_2.same W4
  have f5_0 := Nat.le_trans f3_0 (Keep.of_wr W4).1
  have f5_1 := f3_1.wr W4
  have f5_2 := f3_3.wr W4 (Or.inl (List.mem_of_getElem? (i := 0) rfl))
  have f5_3 := Fw2.other W4 (Or.inr (slot_ne (Or.inr (ow hw 37 rfl)) (Or.inr (ow hw 35 rfl)) (by decide) (t := (.array .byte)) (t' := .byte) (by decide) (by decide)))
  have N4 := Fr.snoc X4 N2 g_ar
  refine Wp.back (U' := (T4.setTop (mkF m 14 #[.val (.ref ar), .val (.ref ba), .val (.int 0)] []))) st4 ?_
  obtain ⟨fs, hr, hrun, hended, hW, hsame⟩ := X4.leave (v := none) (fun _ => rfl)
  refine Wp.done (X4.returnOut hx hret (hb hby d31_14) hr) hrun hended ⟨_, _, rfl, ?_, ⟨_, rfl⟩, hW, hsame.mono (by decide) (by decide)⟩
  show Q_sib Z ar ba h0 n0 _ T4.heap _
  rw [e4]
  exact ⟨rfl, N4, f5_2, f5_1, f5_3, Fw4⟩
def Q_min2 (Z : State)   (h0 : Heap) (n0 : Nat) (v : Option Value) (h : Heap) (L : List Loc) : Prop := v = some (.int 1) ∧ Fr n0 L ∧ Keep h0 h []
theorem d30_0 : decode jdk_29_method_69_code 0 = .ok (.iload_n 0, 1) := by decide +kernel
theorem d30_1 : decode jdk_29_method_69_code 1 = .ok (.iload_n 1, 1) := by decide +kernel
theorem d30_2 : decode jdk_29_method_69_code 2 = .ok (.if_icmp .gt 7, 3) := by decide +kernel
theorem d30_9 : decode jdk_29_method_69_code 9 = .ok (.iload_n 1, 1) := by decide +kernel
theorem d30_10 : decode jdk_29_method_69_code 10 = .ok (.ireturn, 1) := by decide +kernel
theorem ef30_II (m : MethodId) (x0 : Int32) (x1 : Int32) : entryFrame m #[(.int x0), (.int x1)] 2 = mkF m 0 #[.val (.int x0), .val (.int x1)] [] := by first | (simp [entryFrame, mkF, argsToLocals, Value.category]; done) | rfl
set_option maxRecDepth 65536 in
set_option maxHeartbeats 40000000 in
theorem rm_min2 (l : Launch) (Z : State) (a0 : Array Value) (hw : ∀ d ∈ tables_1, d.before a0 Z = true) (ws : List Jvm.Cond)   (h0 : Heap) (n0 : Nat) (Z0 : n0 ≤ h0.size)  :
    Met l Z Y16 jdk_29_method_69_code 2 (some .int) ws ({ frames := 0, cells := 0, slots := 0, locals := 0 } : Room) #[(.int 2), (.int 1)] h0 (Q_min2 Z  h0 n0) := by
  refine own_body (Jvm.Free.JP.mathPlain rfl (by decide +kernel)) ?_
  intro p e s m below meth c s₁ hx hby hret hlk hml hZ hown hnm X0 e0
  have N0 := Fr.nil n0
  refine Wp.back (U' := (s₁.setTop (mkF m 0 #[.val (.int 2), .val (.int 1)] []))) (fun t k => castTop (ef30_II m (2 : Int32) (1 : Int32)) k) ?_
  refine Wp.back (U' := (s₁.setTop (mkF m 10 #[.val (.int 2), .val (.int 1)] [(.int 1)]))) (fun t k => XS.iloadN X0.here hx rfl (hb hby d30_0) rfl (XS.iloadN X0.here hx rfl (hb hby d30_1) rfl (XS.icmpYes X0.here hx rfl (pc0 := 2) (pc' := 9) rfl (hb hby d30_2) rfl (tlt (by decide)).2.2.1 (by decide) (by decide) (XS.iloadN X0.here hx rfl (hb hby d30_9) rfl k)))) ?_
  obtain ⟨fs, hr, hrun, hended, hW, hsame⟩ := X0.leave (v := (some (.int 1))) (fun h => by rw [hret] at h; cases h)
  refine Wp.done (retI X0 hx hret (hb hby d30_10) hr) hrun hended ⟨_, _, rfl, ?_, ⟨_, rfl⟩, hW, hsame.mono (by decide) (by decide)⟩
  show Q_min2 Z  h0 n0 _ s₁.heap _
  rw [e0]
  exact ⟨rfl, N0, (Keep.refl h0 [])⟩
def Q_cb2 (Z : State) (a1 : Addr) (k1 : ClassId) (v0 : Int32) (v1 : Int32) (h0 : Heap) (n0 : Nat) (v : Option Value) (h : Heap) (L : List Loc) : Prop := ∃ fr0 : Addr, ∃ fk0 : ClassId, v = some (.ref fr0) ∧ Fr n0 L ∧ Keep h0 h [] ∧ h0.size ≤ fr0 ∧ Arv Z h fr0 fk0 .byte (1 : Int32) [(.int v0)] (.int 0)
theorem d28_0 : decode jdk_65_method_133_code 0 = .ok (.iload_n 1, 1) := by decide +kernel
theorem d28_1 : decode jdk_65_method_133_code 1 = .ok (.iload_n 2, 1) := by decide +kernel
theorem d28_2 : decode jdk_65_method_133_code 2 = .ok (.invokestatic 343, 3) := by decide +kernel
theorem d28_5 : decode jdk_65_method_133_code 5 = .ok (.iload_n 2, 1) := by decide +kernel
theorem d28_6 : decode jdk_65_method_133_code 6 = .ok (.iload_n 1, 1) := by decide +kernel
theorem d28_7 : decode jdk_65_method_133_code 7 = .ok (.isub, 1) := by decide +kernel
theorem d28_8 : decode jdk_65_method_133_code 8 = .ok (.istore_n 3, 1) := by decide +kernel
theorem d28_9 : decode jdk_65_method_133_code 9 = .ok (.iload_n 3, 1) := by decide +kernel
theorem d28_10 : decode jdk_65_method_133_code 10 = .ok (.newarray .byte, 2) := by decide +kernel
theorem d28_12 : decode jdk_65_method_133_code 12 = .ok (.astore 4, 2) := by decide +kernel
theorem d28_14 : decode jdk_65_method_133_code 14 = .ok (.aload_n 0, 1) := by decide +kernel
theorem d28_15 : decode jdk_65_method_133_code 15 = .ok (.iload_n 1, 1) := by decide +kernel
theorem d28_16 : decode jdk_65_method_133_code 16 = .ok (.aload 4, 2) := by decide +kernel
theorem d28_18 : decode jdk_65_method_133_code 18 = .ok (.iconst 0, 1) := by decide +kernel
theorem d28_19 : decode jdk_65_method_133_code 19 = .ok (.aload_n 0, 1) := by decide +kernel
theorem d28_20 : decode jdk_65_method_133_code 20 = .ok (.arraylength, 1) := by decide +kernel
theorem d28_21 : decode jdk_65_method_133_code 21 = .ok (.iload_n 1, 1) := by decide +kernel
theorem d28_22 : decode jdk_65_method_133_code 22 = .ok (.isub, 1) := by decide +kernel
theorem d28_23 : decode jdk_65_method_133_code 23 = .ok (.iload_n 3, 1) := by decide +kernel
theorem d28_24 : decode jdk_65_method_133_code 24 = .ok (.invokestatic 304, 3) := by decide +kernel
theorem d28_27 : decode jdk_65_method_133_code 27 = .ok (.invokestatic 150, 3) := by decide +kernel
theorem d28_30 : decode jdk_65_method_133_code 30 = .ok (.aload 4, 2) := by decide +kernel
theorem d28_32 : decode jdk_65_method_133_code 32 = .ok (.areturn, 1) := by decide +kernel
theorem pd_9 : parseMethodDescriptor "(II)I" = some ⟨[.int, .int], some .int⟩ := by decide +kernel
theorem pn28 : plainName "java/util/Arrays" = true := by first | (simp [plainName, overriddenIn]; done) | decide +kernel
theorem ef28_RII (m : MethodId) (x0 : Addr) (x1 : Int32) (x2 : Int32) : entryFrame m #[(.ref x0), (.int x1), (.int x2)] 5 = mkF m 0 #[.val (.ref x0), .val (.int x1), .val (.int x2), .unset, .unset] [] := by first | (simp [entryFrame, mkF, argsToLocals, Value.category]; done) | rfl
set_option maxRecDepth 65536 in
set_option maxHeartbeats 40000000 in
theorem rm_cb2 (l : Launch) (Z : State) (a0 : Array Value) (hw : ∀ d ∈ tables_1, d.before a0 Z = true) (ws : List Jvm.Cond) (a1 : Addr) (k1 : ClassId) (v0 : Int32) (v1 : Int32) (h0 : Heap) (n0 : Nat) (Z0 : n0 ≤ h0.size) (H0 : Arv Z h0 a1 k1 .byte (2 : Int32) [(.int v0), (.int v1)] (.int 0)) :
    Met l Z Y17 jdk_65_method_133_code 5 (some (.array .byte)) ws ({ frames := 1, cells := 1, slots := 1, locals := 18 } : Room) #[(.ref a1), (.int 0), (.int 1)] h0 (Q_cb2 Z a1 k1 v0 v1 h0 n0) := by
  refine own_body (plainFor_of_name pn28) ?_
  intro p e s m below meth c s₁ hx hby hret hlk hml hZ hown hnm X0 e0
  have N0 := Fr.nil n0
  refine Wp.back (U' := (s₁.setTop (mkF m 0 #[.val (.ref a1), .val (.int 0), .val (.int 1), .unset, .unset] []))) (fun t k => castTop (ef28_RII m a1 (0 : Int32) (1 : Int32)) k) ?_
  refine Wp.back (U' := (s₁.setTop (mkF m 2 #[.val (.ref a1), .val (.int 0), .val (.int 1), .unset, .unset] [(.int 1), (.int 0)]))) (fun t k => XS.iloadN X0.here hx rfl (hb hby d28_0) rfl (XS.iloadN X0.here hx rfl (hb hby d28_1) rfl k)) ?_
  obtain ⟨_, _, ⟨T1, L1, k1, n1⟩, -, X1, ⟨Lc1, hQ1, l1, y1, z1⟩, st1⟩ := Jvm.LawKit.callS X0 hx (y := Y6) hown (mvT hZ (ow hw 127 rfl)) (mvT hZ (ow hw 128 rfl)) (mvT hZ (ow hw 122 rfl)) (mvT hZ (ow hw 129 rfl)) (by decide) (backOf (W := 0) (rm_cl l Z a0 hw [] (0 : Int32) (1 : Int32)  h0 n0 Z0 (by decide)) hZ (ow hw 129 rfl) (ow hw 122 rfl) (by decide) (by decide)) (g := (mkF m 2 #[.val (.ref a1), .val (.int 0), .val (.int 1), .unset, .unset] [(.int 1), (.int 0)])) rfl (by rw [hml]; rfl) (argsL := [(.int 0), (.int 1)]) (rest := []) (lenOf pd_3 rfl) rfl (Nat.le_of_eq rfl) (hb hby d28_2) (fun _ _ => ⟨rfl, e0, (by decide : 0 + 0 ≤ _), (by decide : 0 + 0 ≤ _)⟩)
  dsimp only [Pt.U, Pt.locs, Pt.cells, Pt.slots] at X1 l1 y1 z1 st1 hQ1
  subst l1 y1 z1
  obtain ⟨rfl, N1q, K1⟩ := hQ1
  have f2_0 := Nat.le_trans Z0 K1.1
  have f2_1 := H0.keep K1 nin0
  have f2_2 := (Keep.refl h0 []).trans K1 all0
  have N1 := Fr.app N0 N1q
  refine Wp.back (U' := (T1.setTop (mkF m 5 #[.val (.ref a1), .val (.int 0), .val (.int 1), .unset, .unset] []))) st1 ?_
  refine Wp.back (U' := (T1.setTop (mkF m 10 #[.val (.ref a1), .val (.int 0), .val (.int 1), .val (.int 1), .unset] [(.int 1)]))) (fun t k => XS.iloadN X1.here hx rfl (hb hby d28_5) rfl (XS.iloadN X1.here hx rfl (hb hby d28_6) rfl (XS.isub X1.here hx rfl (hb hby d28_7) rfl (XS.istoreN X1.here hx rfl (hb hby d28_8) rfl (l' := #[.val (.ref a1), .val (.int 0), .val (.int 1), .val (.int 1), .unset]) rfl (XS.iloadN X1.here hx rfl (hb hby d28_9) rfl k))))) ?_
  obtain ⟨T3, h3, k3, X3, e3, E3, A3, st3⟩ := newP X1 hx hZ (ow hw 27 rfl) rfl (g := (mkF m 10 #[.val (.ref a1), .val (.int 0), .val (.int 1), .val (.int 1), .unset] [(.int 1)])) rfl (hb hby d28_10) rfl (by decide) (cap := 1) (by decide) (by decide) (by decide) (by decide)
  obtain ⟨b3, g3⟩ : ∃ z, z = T1.heap.size := ⟨_, rfl⟩
  rw [← g3] at A3 st3
  have ne_a1_b3 : a1 ≠ b3 := Nat.ne_of_lt (Nat.lt_of_lt_of_le f2_1.lt (Nat.le_of_eq g3.symm))
  have g_b3 : n0 ≤ b3 := Nat.le_trans f2_0 (Nat.le_of_eq g3.symm)
  have sz_b3 : h0.size ≤ b3 := Nat.le_trans f2_2.1 (Nat.le_of_eq g3.symm)
  have f4_0 := Nat.le_trans f2_0 E3.1
  have f4_1 := f2_1.ext E3
  have f4_2 := f2_2.ext E3
  have V3 : Arv Z h3 b3 k3 .byte (1 : Int32) [(.int 0)] (.int 0) := (Arv.new A3 (by decide)).pad (pad_rep [] (.int 0) 1)
  refine Wp.back (U' := (T3.setTop (mkF m 12 #[.val (.ref a1), .val (.int 0), .val (.int 1), .val (.int 1), .unset] [(.ref b3)]))) st3 ?_
  refine Wp.back (U' := (T3.setTop (mkF m 20 #[.val (.ref a1), .val (.int 0), .val (.int 1), .val (.int 1), .val (.ref b3)] [(.ref a1), (.int 0), (.ref b3), (.int 0), (.ref a1)]))) (fun t k => XS.astore X3.here hx rfl (hb hby d28_12) rfl rfl (l' := #[.val (.ref a1), .val (.int 0), .val (.int 1), .val (.int 1), .val (.ref b3)]) rfl (XS.aloadN X3.here hx rfl (hb hby d28_14) rfl rfl (XS.iloadN X3.here hx rfl (hb hby d28_15) rfl (XS.aload X3.here hx rfl (hb hby d28_16) rfl rfl (XT.iconstV X3.here hx rfl 0 (hb hby d28_18) (by decide) (XS.aloadN X3.here hx rfl (hb hby d28_19) rfl rfl k)))))) ?_
  have vq5 := f4_1
  obtain ⟨cl5, Ar5, -, qs5, qn5, -, -⟩ := vq5
  refine Wp.back (U' := (T3.setTop (mkF m 21 #[.val (.ref a1), .val (.int 0), .val (.int 1), .val (.int 1), .val (.ref b3)] [(.int 2), (.int 0), (.ref b3), (.int 0), (.ref a1)]))) (fun t k => X3.arraylength hx (by rw [e3]; exact Ar5.1) (State.isArrayOf_alike hZ.alike Ar5.2.1) (g := (mkF m 20 #[.val (.ref a1), .val (.int 0), .val (.int 1), .val (.int 1), .val (.ref b3)] [(.ref a1), (.int 0), (.ref b3), (.int 0), (.ref a1)])) rfl rfl (hb hby d28_20) t (by rw [len_of qs5 qn5]; exact k)) ?_
  refine Wp.back (U' := (T3.setTop (mkF m 24 #[.val (.ref a1), .val (.int 0), .val (.int 1), .val (.int 1), .val (.ref b3)] [(.int 1), (.int 2), (.int 0), (.ref b3), (.int 0), (.ref a1)]))) (fun t k => XS.iloadN X3.here hx rfl (hb hby d28_21) rfl (XS.isub X3.here hx rfl (hb hby d28_22) rfl (XS.iloadN X3.here hx rfl (hb hby d28_23) rfl k))) ?_
  obtain ⟨_, _, ⟨T6, L6, k6, n6⟩, -, X6, ⟨Lc6, hQ6, l6, y6, z6⟩, st6⟩ := Jvm.LawKit.callS X3 hx (y := Y16) hown (mvT hZ (ow hw 130 rfl)) (mvT hZ (ow hw 131 rfl)) (mvT hZ (ow hw 132 rfl)) (mvT hZ (ow hw 133 rfl)) (by decide) (backOf (W := 4) (rm_min2 l Z a0 hw []   h3 n0 f4_0 ) hZ (ow hw 133 rfl) (ow hw 132 rfl) (by decide) (by decide)) (g := (mkF m 24 #[.val (.ref a1), .val (.int 0), .val (.int 1), .val (.int 1), .val (.ref b3)] [(.int 1), (.int 2), (.int 0), (.ref b3), (.int 0), (.ref a1)])) rfl (by rw [hml]; rfl) (argsL := [(.int 2), (.int 1)]) (rest := [(.int 0), (.ref b3), (.int 0), (.ref a1)]) (lenOf pd_9 rfl) rfl (Nat.le_of_eq rfl) (hb hby d28_24) (fun _ _ => ⟨rfl, e3, (by decide : 1 + 0 ≤ _), (by decide : 1 + 0 ≤ _)⟩)
  dsimp only [Pt.U, Pt.locs, Pt.cells, Pt.slots] at X6 l6 y6 z6 st6 hQ6
  subst l6 y6 z6
  obtain ⟨rfl, N6q, K6⟩ := hQ6
  have f7_0 := Nat.le_trans f4_0 K6.1
  have f7_1 := f4_1.keep K6 nin0
  have f7_2 := f4_2.trans K6 all0
  have f7_3 := V3.keep K6 nin0
  have N6 := Fr.app N1 N6q
  refine Wp.back (U' := (T6.setTop (mkF m 27 #[.val (.ref a1), .val (.int 0), .val (.int 1), .val (.int 1), .val (.ref b3)] [(.int 1), (.int 0), (.ref b3), (.int 0), (.ref a1)]))) st6 ?_
  obtain ⟨T8, h8, L8, X8, e8, N8, K8, V8, st8⟩ := cpA X6 hx hZ hown (ow hw 134 rfl) (ow hw 137 rfl) (ow hw 135 rfl) (ow hw 136 rfl) rfl f7_1 f7_3 (Or.inl ⟨rfl, rfl⟩) (sp := (0 : Int32)) (dp := (0 : Int32)) (nn := (1 : Int32)) (us := [(.int v0)]) (by decide) (by decide) (by decide) (by decide) (by decide) rfl (by decide) N6 g_b3 (g := (mkF m 27 #[.val (.ref a1), .val (.int 0), .val (.int 1), .val (.int 1), .val (.ref b3)] [(.int 1), (.int 0), (.ref b3), (.int 0), (.ref a1)])) rfl (by rw [hml]; rfl) (rest := []) rfl (hb hby d28_27) (by decide) (W := 0) (Nat.le_of_eq rfl) (by decide)
  have f9_0 := Nat.le_trans f7_0 K8.1
  have f9_1 := f7_1.keep K8 (ninS ne_a1_b3 nin0)
  have f9_2 := f7_2.trans K8 (allS (Or.inr sz_b3) all0)
  have W8 : Arv Z h8 b3 k3 .byte (1 : Int32) [(.int v0)] (.int 0) := V8
  refine Wp.back (U' := (T8.setTop (mkF m 30 #[.val (.ref a1), .val (.int 0), .val (.int 1), .val (.int 1), .val (.ref b3)] []))) st8 ?_
  refine Wp.back (U' := (T8.setTop (mkF m 32 #[.val (.ref a1), .val (.int 0), .val (.int 1), .val (.int 1), .val (.ref b3)] [(.ref b3)]))) (fun t k => XS.aload X8.here hx rfl (hb hby d28_30) rfl rfl k) ?_
  obtain ⟨fs, hr, hrun, hended, hW, hsame⟩ := X8.leave (v := (some (.ref b3))) (fun h => by rw [hret] at h; cases h)
  refine Wp.done (retOut X8 hx hret rfl (Or.inr (Or.inr (Or.inr (Or.inr ⟨rfl, rfl, rfl⟩)))) (hb hby d28_32) hr) hrun hended ⟨_, _, rfl, ?_, ⟨_, rfl⟩, hW, hsame.mono (by decide) (by decide)⟩
  show Q_cb2 Z a1 k1 v0 v1 h0 n0 _ T8.heap _
  rw [e8]
  exact ⟨b3, k3, rfl, N8, f9_2, sz_b3, W8⟩
def Q_co2 (Z : State) (a1 : Addr) (k1 : ClassId) (v0 : Int32) (v1 : Int32) (h0 : Heap) (n0 : Nat) (v : Option Value) (h : Heap) (L : List Loc) : Prop := ∃ fr0 : Addr, ∃ fk0 : ClassId, v = some (.ref fr0) ∧ Fr n0 L ∧ Keep h0 h [] ∧ h0.size ≤ fr0 ∧ Arv Z h fr0 fk0 .byte (1 : Int32) [(.int v0)] (.int 0)
theorem d27_0 : decode jdk_65_method_132_code 0 = .ok (.iload_n 1, 1) := by decide +kernel
theorem d27_1 : decode jdk_65_method_132_code 1 = .ok (.ifCond .ne 9, 3) := by decide +kernel
theorem d27_4 : decode jdk_65_method_132_code 4 = .ok (.iload_n 2, 1) := by decide +kernel
theorem d27_5 : decode jdk_65_method_132_code 5 = .ok (.aload_n 0, 1) := by decide +kernel
theorem d27_6 : decode jdk_65_method_132_code 6 = .ok (.arraylength, 1) := by decide +kernel
theorem d27_7 : decode jdk_65_method_132_code 7 = .ok (.if_icmp .eq 10, 3) := by decide +kernel
theorem d27_10 : decode jdk_65_method_132_code 10 = .ok (.aload_n 0, 1) := by decide +kernel
theorem d27_11 : decode jdk_65_method_132_code 11 = .ok (.iload_n 1, 1) := by decide +kernel
theorem d27_12 : decode jdk_65_method_132_code 12 = .ok (.iload_n 2, 1) := by decide +kernel
theorem d27_13 : decode jdk_65_method_132_code 13 = .ok (.invokestatic 339, 3) := by decide +kernel
theorem d27_16 : decode jdk_65_method_132_code 16 = .ok (.areturn, 1) := by decide +kernel
theorem pd_10 : parseMethodDescriptor "([BII)[B" = some ⟨[(.array .byte), .int, .int], some (.array .byte)⟩ := by decide +kernel
theorem pn27 : plainName "java/util/Arrays" = true := by first | (simp [plainName, overriddenIn]; done) | decide +kernel
theorem ef27_RII (m : MethodId) (x0 : Addr) (x1 : Int32) (x2 : Int32) : entryFrame m #[(.ref x0), (.int x1), (.int x2)] 3 = mkF m 0 #[.val (.ref x0), .val (.int x1), .val (.int x2)] [] := by first | (simp [entryFrame, mkF, argsToLocals, Value.category]; done) | rfl
set_option maxRecDepth 65536 in
set_option maxHeartbeats 40000000 in
theorem rm_co2 (l : Launch) (Z : State) (a0 : Array Value) (hw : ∀ d ∈ tables_1, d.before a0 Z = true) (ws : List Jvm.Cond) (a1 : Addr) (k1 : ClassId) (v0 : Int32) (v1 : Int32) (h0 : Heap) (n0 : Nat) (Z0 : n0 ≤ h0.size) (H0 : Arv Z h0 a1 k1 .byte (2 : Int32) [(.int v0), (.int v1)] (.int 0)) :
    Met l Z Y18 jdk_65_method_132_code 3 (some (.array .byte)) ws ({ frames := 2, cells := 1, slots := 1, locals := 34 } : Room) #[(.ref a1), (.int 0), (.int 1)] h0 (Q_co2 Z a1 k1 v0 v1 h0 n0) := by
  refine own_body (plainFor_of_name pn27) ?_
  intro p e s m below meth c s₁ hx hby hret hlk hml hZ hown hnm X0 e0
  have N0 := Fr.nil n0
  refine Wp.back (U' := (s₁.setTop (mkF m 0 #[.val (.ref a1), .val (.int 0), .val (.int 1)] []))) (fun t k => castTop (ef27_RII m a1 (0 : Int32) (1 : Int32)) k) ?_
  refine Wp.back (U' := (s₁.setTop (mkF m 6 #[.val (.ref a1), .val (.int 0), .val (.int 1)] [(.ref a1), (.int 1)]))) (fun t k => XS.iloadN X0.here hx rfl (hb hby d27_0) rfl (XS.ifNo X0.here hx rfl (hb hby d27_1) rfl ((if0 _ _).trans (teq (by decide)).2) (XS.iloadN X0.here hx rfl (hb hby d27_4) rfl (XS.aloadN X0.here hx rfl (hb hby d27_5) rfl rfl k)))) ?_
  have vq1 := H0
  obtain ⟨cl1, Ar1, -, qs1, qn1, -, -⟩ := vq1
  refine Wp.back (U' := (s₁.setTop (mkF m 7 #[.val (.ref a1), .val (.int 0), .val (.int 1)] [(.int 2), (.int 1)]))) (fun t k => X0.arraylength hx (by rw [e0]; exact Ar1.1) (State.isArrayOf_alike hZ.alike Ar1.2.1) (g := (mkF m 6 #[.val (.ref a1), .val (.int 0), .val (.int 1)] [(.ref a1), (.int 1)])) rfl rfl (hb hby d27_6) t (by rw [len_of qs1 qn1]; exact k)) ?_
  refine Wp.back (U' := (s₁.setTop (mkF m 13 #[.val (.ref a1), .val (.int 0), .val (.int 1)] [(.int 1), (.int 0), (.ref a1)]))) (fun t k => XS.icmpNo X0.here hx rfl (hb hby d27_7) rfl (feq (by decide)).1 (XS.aloadN X0.here hx rfl (hb hby d27_10) rfl rfl (XS.iloadN X0.here hx rfl (hb hby d27_11) rfl (XS.iloadN X0.here hx rfl (hb hby d27_12) rfl k)))) ?_
  obtain ⟨_, _, ⟨T2, L2, k2, n2⟩, -, X2, ⟨Lc2, hQ2, l2, y2, z2⟩, st2⟩ := Jvm.LawKit.callS X0 hx (y := Y17) hown (mvT hZ (ow hw 124 rfl)) (mvT hZ (ow hw 125 rfl)) (mvT hZ (ow hw 122 rfl)) (mvT hZ (ow hw 126 rfl)) (by decide) (backOf (W := 0) (rm_cb2 l Z a0 hw [] a1 k1 v0 v1 h0 n0 Z0 H0) hZ (ow hw 126 rfl) (ow hw 122 rfl) (by decide) (by decide)) (g := (mkF m 13 #[.val (.ref a1), .val (.int 0), .val (.int 1)] [(.int 1), (.int 0), (.ref a1)])) rfl (by rw [hml]; rfl) (argsL := [(.ref a1), (.int 0), (.int 1)]) (rest := []) (lenOf pd_10 rfl) rfl (Nat.le_of_eq rfl) (hb hby d27_13) (fun _ _ => ⟨rfl, e0, (by decide : 0 + 1 ≤ _), (by decide : 0 + 1 ≤ _)⟩)
  dsimp only [Pt.U, Pt.locs, Pt.cells, Pt.slots] at X2 l2 y2 z2 st2 hQ2
  subst l2 y2 z2
  obtain ⟨b2_0, k2_0, rfl, N2q, K2, sf2_0, o2_0⟩ := hQ2
  have ne_a1_b2_0 : a1 ≠ b2_0 := Nat.ne_of_lt (Nat.lt_of_lt_of_le H0.lt sf2_0)
  have g_b2_0 : n0 ≤ b2_0 := Nat.le_trans Z0 sf2_0
  have sz_b2_0 : h0.size ≤ b2_0 := Nat.le_trans (Keep.refl h0 []).1 sf2_0
  have f3_0 := Nat.le_trans Z0 K2.1
  have f3_1 := H0.keep K2 nin0
  have f3_2 := (Keep.refl h0 []).trans K2 all0
  have N2 := Fr.app N0 N2q
  refine Wp.back (U' := (T2.setTop (mkF m 16 #[.val (.ref a1), .val (.int 0), .val (.int 1)] [(.ref b2_0)]))) st2 ?_
  obtain ⟨fs, hr, hrun, hended, hW, hsame⟩ := X2.leave (v := (some (.ref b2_0))) (fun h => by rw [hret] at h; cases h)
  refine Wp.done (retOut X2 hx hret rfl (Or.inr (Or.inr (Or.inr (Or.inr ⟨rfl, rfl, rfl⟩)))) (hb hby d27_16) hr) hrun hended ⟨_, _, rfl, ?_, ⟨_, rfl⟩, hW, hsame.mono (by decide) (by decide)⟩
  show Q_co2 Z a1 k1 v0 v1 h0 n0 _ T2.heap _
  exact ⟨b2_0, k2_0, rfl, N2, f3_2, sz_b2_0, o2_0⟩
def Q_nw2 (Z : State) (a1 : Addr) (k1 : ClassId) (v0 : Int32) (v1 : Int32) (h0 : Heap) (n0 : Nat) (v : Option Value) (h : Heap) (L : List Loc) : Prop := ∃ fr0 : Addr, ∃ fr1 : Addr, ∃ fk0 : ClassId, v = some (.ref fr0) ∧ Fr n0 L ∧ Keep h0 h [] ∧ h0.size ≤ fr0 ∧ h0.size ≤ fr1 ∧ Exa Z h fr0 "java/lang/String" ∧ Fld Z h fr0 "java/lang/String" "value" "[B" (.ref fr1) ∧ Fld Z h fr0 "java/lang/String" "coder" "B" (.int 0) ∧ Arv Z h fr1 fk0 .byte (1 : Int32) [(.int v0)] (.int 0)
theorem d26_0 : decode jdk_43_method_47_code 0 = .ok (.iload_n 2, 1) := by decide +kernel
theorem d26_1 : decode jdk_43_method_47_code 1 = .ok (.ifCond .ne 6, 3) := by decide +kernel
theorem d26_7 : decode jdk_43_method_47_code 7 = .ok (.new 1, 3) := by decide +kernel
theorem d26_10 : decode jdk_43_method_47_code 10 = .ok (.dup, 1) := by decide +kernel
theorem d26_11 : decode jdk_43_method_47_code 11 = .ok (.aload_n 0, 1) := by decide +kernel
theorem d26_12 : decode jdk_43_method_47_code 12 = .ok (.iload_n 1, 1) := by decide +kernel
theorem d26_13 : decode jdk_43_method_47_code 13 = .ok (.iload_n 1, 1) := by decide +kernel
theorem d26_14 : decode jdk_43_method_47_code 14 = .ok (.iload_n 2, 1) := by decide +kernel
theorem d26_15 : decode jdk_43_method_47_code 15 = .ok (.iadd, 1) := by decide +kernel
theorem d26_16 : decode jdk_43_method_47_code 16 = .ok (.invokestatic 232, 3) := by decide +kernel
theorem d26_19 : decode jdk_43_method_47_code 19 = .ok (.iconst 0, 1) := by decide +kernel
theorem d26_20 : decode jdk_43_method_47_code 20 = .ok (.invokespecial 112, 3) := by decide +kernel
theorem d26_23 : decode jdk_43_method_47_code 23 = .ok (.areturn, 1) := by decide +kernel
theorem pd_11 : parseMethodDescriptor "([BB)V" = some ⟨[(.array .byte), .byte], none⟩ := by decide +kernel
theorem pn26 : plainName "java/lang/StringLatin1" = true := by first | (simp [plainName, overriddenIn]; done) | decide +kernel
theorem ef26_RII (m : MethodId) (x0 : Addr) (x1 : Int32) (x2 : Int32) : entryFrame m #[(.ref x0), (.int x1), (.int x2)] 3 = mkF m 0 #[.val (.ref x0), .val (.int x1), .val (.int x2)] [] := by first | (simp [entryFrame, mkF, argsToLocals, Value.category]; done) | rfl
set_option maxRecDepth 65536 in
set_option maxHeartbeats 40000000 in
theorem rm_nw2 (l : Launch) (Z : State) (a0 : Array Value) (hw : ∀ d ∈ tables_1, d.before a0 Z = true) (ws : List Jvm.Cond) (a1 : Addr) (k1 : ClassId) (v0 : Int32) (v1 : Int32) (h0 : Heap) (n0 : Nat) (Z0 : n0 ≤ h0.size) (H0 : Arv Z h0 a1 k1 .byte (2 : Int32) [(.int v0), (.int v1)] (.int 0)) :
    Met l Z Y19 jdk_43_method_47_code 3 (some (.object "java/lang/String")) ws ({ frames := 3, cells := 2, slots := 5, locals := 50 } : Room) #[(.ref a1), (.int 0), (.int 1)] h0 (Q_nw2 Z a1 k1 v0 v1 h0 n0) := by
  refine own_body (plainFor_of_name pn26) ?_
  intro p e s m below meth c s₁ hx hby hret hlk hml hZ hown hnm X0 e0
  have N0 := Fr.nil n0
  refine Wp.back (U' := (s₁.setTop (mkF m 0 #[.val (.ref a1), .val (.int 0), .val (.int 1)] []))) (fun t k => castTop (ef26_RII m a1 (0 : Int32) (1 : Int32)) k) ?_
  refine Wp.back (U' := (s₁.setTop (mkF m 7 #[.val (.ref a1), .val (.int 0), .val (.int 1)] []))) (fun t k => XS.iloadN X0.here hx rfl (hb hby d26_0) rfl (XS.ifYes X0.here hx rfl (pc0 := 1) (pc' := 7) rfl (hb hby d26_1) rfl ((if0 _ _).trans (feq (by decide)).2) (by decide) (by decide) k)) ?_
  obtain ⟨T1, h1, X1, e1, E1, A1, D1, -, st1⟩ := newO X0 hx hZ hown (ow hw 119 rfl) (ow hw 10 rfl) (ow hw 11 rfl) e0 (g := (mkF m 7 #[.val (.ref a1), .val (.int 0), .val (.int 1)] [])) rfl (hb hby d26_7) (by decide) (by decide)
  obtain ⟨b1, g1⟩ : ∃ z, z = h0.size := ⟨_, rfl⟩
  rw [← g1] at A1 D1 st1
  have ne_a1_b1 : a1 ≠ b1 := Nat.ne_of_lt (Nat.lt_of_lt_of_le H0.lt (Nat.le_of_eq g1.symm))
  have g_b1 : n0 ≤ b1 := Nat.le_trans Z0 (Nat.le_of_eq g1.symm)
  have sz_b1 : h0.size ≤ b1 := Nat.le_trans (Keep.refl h0 []).1 (Nat.le_of_eq g1.symm)
  have f2_0 := Nat.le_trans Z0 E1.1
  have f2_1 := H0.ext E1
  have f2_2 := (Keep.refl h0 []).ext E1
  have F1_35 : Fld Z h1 b1 "java/lang/String" "coder" "B" (.int 0) := D1 (Or.inr (ow hw 35 rfl)) (ty := .byte) (by decide)
  have F1_37 : Fld Z h1 b1 "java/lang/String" "value" "[B" .null := D1 (Or.inr (ow hw 37 rfl)) (ty := (.array .byte)) (by decide)
  refine Wp.back (U' := (T1.setTop (mkF m 10 #[.val (.ref a1), .val (.int 0), .val (.int 1)] [(.ref b1)]))) st1 ?_
  refine Wp.back (U' := (T1.setTop (mkF m 16 #[.val (.ref a1), .val (.int 0), .val (.int 1)] [(.int 1), (.int 0), (.ref a1), (.ref b1), (.ref b1)]))) (fun t k => XS.dup X1.here hx rfl (hb hby d26_10) rfl rfl (XS.aloadN X1.here hx rfl (hb hby d26_11) rfl rfl (XS.iloadN X1.here hx rfl (hb hby d26_12) rfl (XS.iloadN X1.here hx rfl (hb hby d26_13) rfl (XS.iloadN X1.here hx rfl (hb hby d26_14) rfl (XS.iadd X1.here hx rfl (hb hby d26_15) rfl k)))))) ?_
  obtain ⟨_, _, ⟨T3, L3, k3, n3⟩, -, X3, ⟨Lc3, hQ3, l3, y3, z3⟩, st3⟩ := Jvm.LawKit.callS X1 hx (y := Y18) hown (mvT hZ (ow hw 120 rfl)) (mvT hZ (ow hw 121 rfl)) (mvT hZ (ow hw 122 rfl)) (mvT hZ (ow hw 123 rfl)) (by decide) (backOf (W := 2) (rm_co2 l Z a0 hw [] a1 k1 v0 v1 h1 n0 f2_0 f2_1) hZ (ow hw 123 rfl) (ow hw 122 rfl) (by decide) (by decide)) (g := (mkF m 16 #[.val (.ref a1), .val (.int 0), .val (.int 1)] [(.int 1), (.int 0), (.ref a1), (.ref b1), (.ref b1)])) rfl (by rw [hml]; rfl) (argsL := [(.ref a1), (.int 0), (.int 1)]) (rest := [(.ref b1), (.ref b1)]) (lenOf pd_10 rfl) rfl (Nat.le_of_eq rfl) (hb hby d26_16) (fun _ _ => ⟨rfl, e1, (by decide : 1 + 1 ≤ _), (by decide : 4 + 1 ≤ _)⟩)
  dsimp only [Pt.U, Pt.locs, Pt.cells, Pt.slots] at X3 l3 y3 z3 st3 hQ3
  subst l3 y3 z3
  obtain ⟨b3_0, k3_0, rfl, N3q, K3, sf3_0, o3_0⟩ := hQ3
  have ne_a1_b3_0 : a1 ≠ b3_0 := Nat.ne_of_lt (Nat.lt_of_lt_of_le f2_1.lt sf3_0)
  have ne_b1_b3_0 : b1 ≠ b3_0 := Nat.ne_of_lt (Nat.lt_of_lt_of_le A1.lt sf3_0)
  have g_b3_0 : n0 ≤ b3_0 := Nat.le_trans f2_0 sf3_0
  have sz_b3_0 : h0.size ≤ b3_0 := Nat.le_trans f2_2.1 sf3_0
  have f4_0 := Nat.le_trans f2_0 K3.1
  have f4_1 := f2_1.keep K3 nin0
  have f4_2 := f2_2.trans K3 all0
  have f4_3 := A1.keep K3
  have f4_4 := F1_35.keep K3 nin0
  have f4_5 := F1_37.keep K3 nin0
  have N3 := Fr.app N0 N3q
  refine Wp.back (U' := (T3.setTop (mkF m 19 #[.val (.ref a1), .val (.int 0), .val (.int 1)] [(.ref b3_0), (.ref b1), (.ref b1)]))) st3 ?_
  refine Wp.back (U' := (T3.setTop (mkF m 20 #[.val (.ref a1), .val (.int 0), .val (.int 1)] [(.int 0), (.ref b3_0), (.ref b1), (.ref b1)]))) (fun t k => XT.iconstV X3.here hx rfl 0 (hb hby d26_19) (by decide) k) ?_
  obtain ⟨_, _, ⟨T5, L5, k5, n5⟩, -, X5, ⟨Lc5, hQ5, l5, y5, z5⟩, st5⟩ := X3.specialBack hx (y := Y15) rfl hown (mvT hZ (ow hw 138 rfl)) (mvT hZ (ow hw 139 rfl)) (mvT hZ (ow hw 140 rfl)) (by decide) (backOf (W := 1) (rm_sib l Z a0 hw [] b1 b3_0  T3.heap n0 f4_0 f4_3 f4_5 f4_4 g_b1) hZ (ow hw 140 rfl) (ow hw 11 rfl) (by decide) (by decide)) (g := (mkF m 20 #[.val (.ref a1), .val (.int 0), .val (.int 1)] [(.int 0), (.ref b3_0), (.ref b1), (.ref b1)])) rfl (by rw [hml]; rfl) (Steps.refl _) (a := b1) (argsL := [(.ref b3_0), (.int 0)]) (rest := [(.ref b1)]) (lenOf pd_11 rfl) rfl (Nat.le_of_eq rfl) (hb hby d26_20) (fun _ _ => ⟨rfl, rfl, (by decide : 2 + 0 ≤ _), (by decide : 5 + 0 ≤ _)⟩)
  dsimp only [Pt.U, Pt.locs, Pt.cells, Pt.slots] at X5 l5 y5 z5 st5 hQ5
  subst l5 y5 z5
  obtain ⟨rfl, N5q, K5, o5_0, o5_1, o5_2⟩ := hQ5
  have f6_0 := Nat.le_trans f4_0 K5.1
  have f6_1 := f4_1.keep K5 (ninS ne_a1_b1 nin0)
  have f6_2 := f4_2.trans K5 (allS (Or.inr sz_b1) all0)
  have f6_3 := f4_3.keep K5
  have f6_6 := o3_0.keep K5 (ninS (Ne.symm ne_b1_b3_0) nin0)
  have N5 := Fr.app N3 N5q
  refine Wp.back (U' := (T5.setTop (mkF m 23 #[.val (.ref a1), .val (.int 0), .val (.int 1)] [(.ref b1)]))) (fun t k => st5.trans k) ?_
  obtain ⟨fs, hr, hrun, hended, hW, hsame⟩ := X5.leave (v := (some (.ref b1))) (fun h => by rw [hret] at h; cases h)
  refine Wp.done (retOut X5 hx hret rfl (Or.inr (Or.inr (Or.inr (Or.inr ⟨rfl, rfl, rfl⟩)))) (hb hby d26_23) hr) hrun hended ⟨_, _, rfl, ?_, ⟨_, rfl⟩, hW, hsame.mono (by decide) (by decide)⟩
  show Q_nw2 Z a1 k1 v0 v1 h0 n0 _ T5.heap _
  exact ⟨b1, b3_0, k3_0, rfl, N5, f6_2, sz_b1, sz_b3_0, o5_0, o5_1, o5_2, f6_6⟩
def Q_ss2 (Z : State) (ar : Addr) (a1 : Addr) (cs : Int32) (fm : Value) (k1 : ClassId) (v0 : Int32) (v1 : Int32) (h0 : Heap) (n0 : Nat) (v : Option Value) (h : Heap) (L : List Loc) : Prop := ∃ fr0 : Addr, ∃ fr1 : Addr, ∃ fk0 : ClassId, v = some (.ref fr0) ∧ Fr n0 L ∧ Keep h0 h [] ∧ h0.size ≤ fr0 ∧ h0.size ≤ fr1 ∧ Exa Z h fr0 "java/lang/String" ∧ Fld Z h fr0 "java/lang/String" "value" "[B" (.ref fr1) ∧ Fld Z h fr0 "java/lang/String" "coder" "B" (.int 0) ∧ Arv Z h fr1 fk0 .byte (1 : Int32) [(.int v0)] (.int 0)
theorem d21_0 : decode jdk_42_method_92_code 0 = .ok (.aload_n 0, 1) := by decide +kernel
theorem d21_1 : decode jdk_42_method_92_code 1 = .ok (.invokevirtual 505, 3) := by decide +kernel
theorem d21_4 : decode jdk_42_method_92_code 4 = .ok (.istore_n 3, 1) := by decide +kernel
theorem d21_5 : decode jdk_42_method_92_code 5 = .ok (.iload_n 1, 1) := by decide +kernel
theorem d21_6 : decode jdk_42_method_92_code 6 = .ok (.iload_n 2, 1) := by decide +kernel
theorem d21_7 : decode jdk_42_method_92_code 7 = .ok (.iload_n 3, 1) := by decide +kernel
theorem d21_8 : decode jdk_42_method_92_code 8 = .ok (.invokestatic 521, 3) := by decide +kernel
theorem d21_11 : decode jdk_42_method_92_code 11 = .ok (.iload_n 1, 1) := by decide +kernel
theorem d21_12 : decode jdk_42_method_92_code 12 = .ok (.ifCond .ne 10, 3) := by decide +kernel
theorem d21_15 : decode jdk_42_method_92_code 15 = .ok (.iload_n 2, 1) := by decide +kernel
theorem d21_16 : decode jdk_42_method_92_code 16 = .ok (.iload_n 3, 1) := by decide +kernel
theorem d21_17 : decode jdk_42_method_92_code 17 = .ok (.if_icmp .ne 5, 3) := by decide +kernel
theorem d21_22 : decode jdk_42_method_92_code 22 = .ok (.iload_n 2, 1) := by decide +kernel
theorem d21_23 : decode jdk_42_method_92_code 23 = .ok (.iload_n 1, 1) := by decide +kernel
theorem d21_24 : decode jdk_42_method_92_code 24 = .ok (.isub, 1) := by decide +kernel
theorem d21_25 : decode jdk_42_method_92_code 25 = .ok (.istore 4, 2) := by decide +kernel
theorem d21_27 : decode jdk_42_method_92_code 27 = .ok (.aload_n 0, 1) := by decide +kernel
theorem d21_28 : decode jdk_42_method_92_code 28 = .ok (.invokevirtual 492, 3) := by decide +kernel
theorem d21_31 : decode jdk_42_method_92_code 31 = .ok (.ifCond .eq 16, 3) := by decide +kernel
theorem d21_34 : decode jdk_42_method_92_code 34 = .ok (.aload_n 0, 1) := by decide +kernel
theorem d21_35 : decode jdk_42_method_92_code 35 = .ok (.getfield 9, 3) := by decide +kernel
theorem d21_38 : decode jdk_42_method_92_code 38 = .ok (.iload_n 1, 1) := by decide +kernel
theorem d21_39 : decode jdk_42_method_92_code 39 = .ok (.iload 4, 2) := by decide +kernel
theorem d21_41 : decode jdk_42_method_92_code 41 = .ok (.invokestatic 685, 3) := by decide +kernel
theorem d21_44 : decode jdk_42_method_92_code 44 = .ok (.goto 13, 3) := by decide +kernel
theorem d21_57 : decode jdk_42_method_92_code 57 = .ok (.areturn, 1) := by decide +kernel
theorem pd_12 : parseMethodDescriptor "(III)V" = some ⟨[.int, .int, .int], none⟩ := by decide +kernel
theorem pd_13 : parseMethodDescriptor "([BII)Ljava/lang/String;" = some ⟨[(.array .byte), .int, .int], some (.object "java/lang/String")⟩ := by decide +kernel
theorem pn21 : plainName "java/lang/String" = true := by first | (simp [plainName, overriddenIn]; done) | decide +kernel
theorem ef21_RII (m : MethodId) (x0 : Addr) (x1 : Int32) (x2 : Int32) : entryFrame m #[(.ref x0), (.int x1), (.int x2)] 5 = mkF m 0 #[.val (.ref x0), .val (.int x1), .val (.int x2), .unset, .unset] [] := by first | (simp [entryFrame, mkF, argsToLocals, Value.category]; done) | rfl
set_option maxRecDepth 65536 in
set_option maxHeartbeats 40000000 in
theorem rm_ss2 (l : Launch) (Z : State) (a0 : Array Value) (hw : ∀ d ∈ tables_1, d.before a0 Z = true) (ws : List Jvm.Cond) (ar : Addr) (a1 : Addr) (cs : Int32) (fm : Value) (k1 : ClassId) (v0 : Int32) (v1 : Int32) (h0 : Heap) (n0 : Nat) (Z0 : n0 ≤ h0.size) (H0 : Exa Z h0 ar "java/lang/String") (H1 : Fld Z h0 ar "java/lang/String" "value" "[B" (.ref a1)) (H2 : Fld Z h0 ar "java/lang/String" "coder" "B" (.int 0)) (H3 : Arv Z h0 a1 k1 .byte (2 : Int32) [(.int v0), (.int v1)] (.int 0)) (H4 : Sta Z h0 "java/lang/String" "COMPACT_STRINGS" "Z" (.int cs)) (H5 : Sta Z h0 "jdk/internal/util/Preconditions" "SIOOBE_FORMATTER" "Ljava/util/function/BiFunction;" fm) (isr_fm : fm.isRef = true) (hcs : ¬ cs = (0 : Int32)) :
    Met l Z Y20 jdk_42_method_92_code 5 (some (.object "java/lang/String")) ws ({ frames := 4, cells := 2, slots := 5, locals := 64 } : Room) #[(.ref ar), (.int 0), (.int 1)] h0 (Q_ss2 Z ar a1 cs fm k1 v0 v1 h0 n0) := by
  refine own_body (plainFor_of_name pn21) ?_
  intro p e s m below meth c s₁ hx hby hret hlk hml hZ hown hnm X0 e0
  have N0 := Fr.nil n0
  refine Wp.back (U' := (s₁.setTop (mkF m 0 #[.val (.ref ar), .val (.int 0), .val (.int 1), .unset, .unset] []))) (fun t k => castTop (ef21_RII m ar (0 : Int32) (1 : Int32)) k) ?_
  refine Wp.back (U' := (s₁.setTop (mkF m 1 #[.val (.ref ar), .val (.int 0), .val (.int 1), .unset, .unset] [(.ref ar)]))) (fun t k => XS.aloadN X0.here hx rfl (hb hby d21_0) rfl rfl k) ?_
  obtain ⟨cq1, kq1, q1a, q1b, q1c⟩ := isOf hZ e0 H0
  obtain ⟨_, _, ⟨T1, L1, k1, n1⟩, -, X1, ⟨Lc1, hQ1, l1, y1, z1⟩, st1⟩ := X0.virtualBack hx (y := Y9) (z := Y9) hown (mvT hZ (ow hw 51 rfl)) (mvT hZ (ow hw 52 rfl)) (notFace_of_selects (args := #[]) (mvT hZ (ow hw 54 rfl))) (mvT hZ (ow hw 54 rfl)) (mvT hZ (ow hw 53 rfl)) (by decide) (backOf (W := 0) (rm_len l Z a0 hw [] ar a1 k1 (2 : Int32) [(.int v0), (.int v1)] (.int 0) cs h0 n0 Z0 H0 H1 H2 H3 H4 hcs) hZ (ow hw 55 rfl) (ow hw 11 rfl) (by decide) (by decide)) q1a q1c (g := (mkF m 1 #[.val (.ref ar), .val (.int 0), .val (.int 1), .unset, .unset] [(.ref ar)])) rfl (by rw [hml]; rfl) (Steps.refl _) (argsL := []) (rest := []) (lenOf pd_6 rfl) rfl (Nat.le_of_eq rfl) (hb hby d21_1) (fun _ _ => ⟨rfl, e0, (by decide : 0 + 0 ≤ _), (by decide : 0 + 0 ≤ _)⟩)
  dsimp only [Pt.U, Pt.locs, Pt.cells, Pt.slots] at X1 l1 y1 z1 st1 hQ1
  subst l1 y1 z1
  obtain ⟨rfl, N1q, K1⟩ := hQ1
  have f2_0 := Nat.le_trans Z0 K1.1
  have f2_1 := H0.keep K1
  have f2_2 := H1.keep K1 nin0
  have f2_3 := H2.keep K1 nin0
  have f2_4 := H3.keep K1 nin0
  have f2_5 := Sta_keep0 H4 K1
  have f2_6 := Sta_keep0 H5 K1
  have f2_7 := (Keep.refl h0 []).trans K1 all0
  have N1 := Fr.app N0 N1q
  refine Wp.back (U' := (T1.setTop (mkF m 4 #[.val (.ref ar), .val (.int 0), .val (.int 1), .unset, .unset] [(.int 2)]))) (fun t k => st1.trans k) ?_
  refine Wp.back (U' := (T1.setTop (mkF m 8 #[.val (.ref ar), .val (.int 0), .val (.int 1), .val (.int 2), .unset] [(.int 2), (.int 1), (.int 0)]))) (fun t k => XS.istoreN X1.here hx rfl (hb hby d21_4) rfl (l' := #[.val (.ref ar), .val (.int 0), .val (.int 1), .val (.int 2), .unset]) rfl (XS.iloadN X1.here hx rfl (hb hby d21_5) rfl (XS.iloadN X1.here hx rfl (hb hby d21_6) rfl (XS.iloadN X1.here hx rfl (hb hby d21_7) rfl k)))) ?_
  obtain ⟨_, _, ⟨T3, L3, k3, n3⟩, -, X3, ⟨Lc3, hQ3, l3, y3, z3⟩, st3⟩ := Jvm.LawKit.callS X1 hx (y := Y5) hown (mvT hZ (ow hw 101 rfl)) (mvT hZ (ow hw 102 rfl)) (mvT hZ (ow hw 11 rfl)) (mvT hZ (ow hw 103 rfl)) (by decide) (backOf (W := 0) (rm_cbe l Z a0 hw [] (0 : Int32) (1 : Int32) (2 : Int32) fm T1.heap n0 f2_0 f2_6 isr_fm (by decide) (by decide) (by decide)) hZ (ow hw 103 rfl) (ow hw 11 rfl) (by decide) (by decide)) (g := (mkF m 8 #[.val (.ref ar), .val (.int 0), .val (.int 1), .val (.int 2), .unset] [(.int 2), (.int 1), (.int 0)])) rfl (by rw [hml]; rfl) (argsL := [(.int 0), (.int 1), (.int 2)]) (rest := []) (lenOf pd_12 rfl) rfl (Nat.le_of_eq rfl) (hb hby d21_8) (fun _ _ => ⟨rfl, rfl, (by decide : 0 + 0 ≤ _), (by decide : 0 + 0 ≤ _)⟩)
  dsimp only [Pt.U, Pt.locs, Pt.cells, Pt.slots] at X3 l3 y3 z3 st3 hQ3
  subst l3 y3 z3
  obtain ⟨rfl, N3q, K3⟩ := hQ3
  have f4_0 := Nat.le_trans f2_0 K3.1
  have f4_1 := f2_1.keep K3
  have f4_2 := f2_2.keep K3 nin0
  have f4_3 := f2_3.keep K3 nin0
  have f4_4 := f2_4.keep K3 nin0
  have f4_5 := Sta_keep0 f2_5 K3
  have f4_6 := Sta_keep0 f2_6 K3
  have f4_7 := f2_7.trans K3 all0
  have N3 := Fr.app N1 N3q
  refine Wp.back (U' := (T3.setTop (mkF m 11 #[.val (.ref ar), .val (.int 0), .val (.int 1), .val (.int 2), .unset] []))) st3 ?_
  refine Wp.back (U' := (T3.setTop (mkF m 28 #[.val (.ref ar), .val (.int 0), .val (.int 1), .val (.int 2), .val (.int 1)] [(.ref ar)]))) (fun t k => XS.iloadN X3.here hx rfl (hb hby d21_11) rfl (XS.ifNo X3.here hx rfl (hb hby d21_12) rfl ((if0 _ _).trans (teq (by decide)).2) (XS.iloadN X3.here hx rfl (hb hby d21_15) rfl (XS.iloadN X3.here hx rfl (hb hby d21_16) rfl (XS.icmpYes X3.here hx rfl (pc0 := 17) (pc' := 22) rfl (hb hby d21_17) rfl (feq (by decide)).2 (by decide) (by decide) (XS.iloadN X3.here hx rfl (hb hby d21_22) rfl (XS.iloadN X3.here hx rfl (hb hby d21_23) rfl (XS.isub X3.here hx rfl (hb hby d21_24) rfl (XS.istore X3.here hx rfl (hb hby d21_25) rfl (l' := #[.val (.ref ar), .val (.int 0), .val (.int 1), .val (.int 2), .val (.int 1)]) rfl (XS.aloadN X3.here hx rfl (hb hby d21_27) rfl rfl k)))))))))) ?_
  obtain ⟨cq5, kq5, q5a, q5b, q5c⟩ := isOf hZ rfl f4_1
  obtain ⟨_, _, ⟨T5, L5, k5, n5⟩, -, X5, ⟨Lc5, hQ5, l5, y5, z5⟩, st5⟩ := X3.virtualBack hx (y := Y8) (z := Y8) hown (mvT hZ (ow hw 76 rfl)) (mvT hZ (ow hw 77 rfl)) (notFace_of_selects (args := #[]) (mvT hZ (ow hw 79 rfl))) (mvT hZ (ow hw 79 rfl)) (mvT hZ (ow hw 78 rfl)) (by decide) (backOf (W := 0) (rm_isl l Z a0 hw [] ar cs T3.heap n0 f4_0 f4_3 f4_5 hcs) hZ (ow hw 80 rfl) (ow hw 11 rfl) (by decide) (by decide)) q5a q5c (g := (mkF m 28 #[.val (.ref ar), .val (.int 0), .val (.int 1), .val (.int 2), .val (.int 1)] [(.ref ar)])) rfl (by rw [hml]; rfl) (Steps.refl _) (argsL := []) (rest := []) (lenOf pd_4 rfl) rfl (Nat.le_of_eq rfl) (hb hby d21_28) (fun _ _ => ⟨rfl, rfl, (by decide : 0 + 0 ≤ _), (by decide : 0 + 0 ≤ _)⟩)
  dsimp only [Pt.U, Pt.locs, Pt.cells, Pt.slots] at X5 l5 y5 z5 st5 hQ5
  subst l5 y5 z5
  obtain ⟨rfl, N5q, K5⟩ := hQ5
  have f6_0 := Nat.le_trans f4_0 K5.1
  have f6_1 := f4_1.keep K5
  have f6_2 := f4_2.keep K5 nin0
  have f6_3 := f4_3.keep K5 nin0
  have f6_4 := f4_4.keep K5 nin0
  have f6_5 := Sta_keep0 f4_5 K5
  have f6_6 := Sta_keep0 f4_6 K5
  have f6_7 := f4_7.trans K5 all0
  have N5 := Fr.app N3 N5q
  refine Wp.back (U' := (T5.setTop (mkF m 31 #[.val (.ref ar), .val (.int 0), .val (.int 1), .val (.int 2), .val (.int 1)] [(.int 1)]))) (fun t k => st5.trans k) ?_
  refine Wp.back (U' := (T5.setTop (mkF m 35 #[.val (.ref ar), .val (.int 0), .val (.int 1), .val (.int 2), .val (.int 1)] [(.ref ar)]))) (fun t k => XS.ifNo X5.here hx rfl (hb hby d21_31) rfl ((if0 _ _).trans (feq (by decide)).1) (XS.aloadN X5.here hx rfl (hb hby d21_34) rfl rfl k)) ?_
  obtain ⟨T7, X7, e7, st7⟩ := getF X5 hx hZ hown (host := "") (Or.inl (ow hw 36 rfl)) Via.refl rfl f6_2 (g := (mkF m 35 #[.val (.ref ar), .val (.int 0), .val (.int 1), .val (.int 2), .val (.int 1)] [(.ref ar)])) rfl rfl (hb hby d21_35)
  refine Wp.back (U' := (T7.setTop (mkF m 38 #[.val (.ref ar), .val (.int 0), .val (.int 1), .val (.int 2), .val (.int 1)] [(.ref a1)]))) st7 ?_
  refine Wp.back (U' := (T7.setTop (mkF m 41 #[.val (.ref ar), .val (.int 0), .val (.int 1), .val (.int 2), .val (.int 1)] [(.int 1), (.int 0), (.ref a1)]))) (fun t k => XS.iloadN X7.here hx rfl (hb hby d21_38) rfl (XS.iload X7.here hx rfl (hb hby d21_39) rfl k)) ?_
  obtain ⟨_, _, ⟨T8, L8, k8, n8⟩, -, X8, ⟨Lc8, hQ8, l8, y8, z8⟩, st8⟩ := Jvm.LawKit.callS X7 hx (y := Y19) hown (mvT hZ (ow hw 116 rfl)) (mvT hZ (ow hw 117 rfl)) (mvT hZ (ow hw 83 rfl)) (mvT hZ (ow hw 118 rfl)) (by decide) (backOf (W := 0) (rm_nw2 l Z a0 hw [] a1 k1 v0 v1 T5.heap n0 f6_0 f6_4) hZ (ow hw 118 rfl) (ow hw 83 rfl) (by decide) (by decide)) (g := (mkF m 41 #[.val (.ref ar), .val (.int 0), .val (.int 1), .val (.int 2), .val (.int 1)] [(.int 1), (.int 0), (.ref a1)])) rfl (by rw [hml]; rfl) (argsL := [(.ref a1), (.int 0), (.int 1)]) (rest := []) (lenOf pd_13 rfl) rfl (Nat.le_of_eq rfl) (hb hby d21_41) (fun _ _ => ⟨rfl, e7, (by decide : 0 + 2 ≤ _), (by decide : 0 + 5 ≤ _)⟩)
  dsimp only [Pt.U, Pt.locs, Pt.cells, Pt.slots] at X8 l8 y8 z8 st8 hQ8
  subst l8 y8 z8
  obtain ⟨b8_0, b8_1, k8_0, rfl, N8q, K8, sf8_0, sf8_1, o8_0, o8_1, o8_2, o8_3⟩ := hQ8
  have ne_ar_b8_0 : ar ≠ b8_0 := Nat.ne_of_lt (Nat.lt_of_lt_of_le f6_1.lt sf8_0)
  have ne_a1_b8_0 : a1 ≠ b8_0 := Nat.ne_of_lt (Nat.lt_of_lt_of_le f6_4.lt sf8_0)
  have g_b8_0 : n0 ≤ b8_0 := Nat.le_trans f6_0 sf8_0
  have sz_b8_0 : h0.size ≤ b8_0 := Nat.le_trans f6_7.1 sf8_0
  have ne_ar_b8_1 : ar ≠ b8_1 := Nat.ne_of_lt (Nat.lt_of_lt_of_le f6_1.lt sf8_1)
  have ne_a1_b8_1 : a1 ≠ b8_1 := Nat.ne_of_lt (Nat.lt_of_lt_of_le f6_4.lt sf8_1)
  have g_b8_1 : n0 ≤ b8_1 := Nat.le_trans f6_0 sf8_1
  have sz_b8_1 : h0.size ≤ b8_1 := Nat.le_trans f6_7.1 sf8_1
  have f9_0 := Nat.le_trans f6_0 K8.1
  have f9_1 := f6_1.keep K8
  have f9_2 := f6_2.keep K8 nin0
  have f9_3 := f6_3.keep K8 nin0
  have f9_4 := f6_4.keep K8 nin0
  have f9_5 := Sta_keep0 f6_5 K8
  have f9_6 := Sta_keep0 f6_6 K8
  have f9_7 := f6_7.trans K8 all0
  have N8 := Fr.app N5 N8q
  refine Wp.back (U' := (T8.setTop (mkF m 44 #[.val (.ref ar), .val (.int 0), .val (.int 1), .val (.int 2), .val (.int 1)] [(.ref b8_0)]))) st8 ?_
  refine Wp.back (U' := (T8.setTop (mkF m 57 #[.val (.ref ar), .val (.int 0), .val (.int 1), .val (.int 2), .val (.int 1)] [(.ref b8_0)]))) (fun t k => XS.goto X8.here hx rfl (pc0 := 44) (pc' := 57) rfl (hb hby d21_44) (by decide) (by decide) k) ?_
  obtain ⟨fs, hr, hrun, hended, hW, hsame⟩ := X8.leave (v := (some (.ref b8_0))) (fun h => by rw [hret] at h; cases h)
  refine Wp.done (retOut X8 hx hret rfl (Or.inr (Or.inr (Or.inr (Or.inr ⟨rfl, rfl, rfl⟩)))) (hb hby d21_57) hr) hrun hended ⟨_, _, rfl, ?_, ⟨_, rfl⟩, hW, hsame.mono (by decide) (by decide)⟩
  show Q_ss2 Z ar a1 cs fm k1 v0 v1 h0 n0 _ T8.heap _
  exact ⟨b8_0, b8_1, k8_0, rfl, N8, f9_7, sz_b8_0, sz_b8_1, o8_0, o8_1, o8_2, o8_3⟩
def Q_min3 (Z : State)   (h0 : Heap) (n0 : Nat) (v : Option Value) (h : Heap) (L : List Loc) : Prop := v = some (.int 2) ∧ Fr n0 L ∧ Keep h0 h []
set_option maxRecDepth 65536 in
set_option maxHeartbeats 40000000 in
theorem rm_min3 (l : Launch) (Z : State) (a0 : Array Value) (hw : ∀ d ∈ tables_1, d.before a0 Z = true) (ws : List Jvm.Cond)   (h0 : Heap) (n0 : Nat) (Z0 : n0 ≤ h0.size)  :
    Met l Z Y16 jdk_29_method_69_code 2 (some .int) ws ({ frames := 0, cells := 0, slots := 0, locals := 0 } : Room) #[(.int 3), (.int 2)] h0 (Q_min3 Z  h0 n0) := by
  refine own_body (Jvm.Free.JP.mathPlain rfl (by decide +kernel)) ?_
  intro p e s m below meth c s₁ hx hby hret hlk hml hZ hown hnm X0 e0
  have N0 := Fr.nil n0
  refine Wp.back (U' := (s₁.setTop (mkF m 0 #[.val (.int 3), .val (.int 2)] []))) (fun t k => castTop (ef30_II m (3 : Int32) (2 : Int32)) k) ?_
  refine Wp.back (U' := (s₁.setTop (mkF m 10 #[.val (.int 3), .val (.int 2)] [(.int 2)]))) (fun t k => XS.iloadN X0.here hx rfl (hb hby d30_0) rfl (XS.iloadN X0.here hx rfl (hb hby d30_1) rfl (XS.icmpYes X0.here hx rfl (pc0 := 2) (pc' := 9) rfl (hb hby d30_2) rfl (tlt (by decide)).2.2.1 (by decide) (by decide) (XS.iloadN X0.here hx rfl (hb hby d30_9) rfl k)))) ?_
  obtain ⟨fs, hr, hrun, hended, hW, hsame⟩ := X0.leave (v := (some (.int 2))) (fun h => by rw [hret] at h; cases h)
  refine Wp.done (retI X0 hx hret (hb hby d30_10) hr) hrun hended ⟨_, _, rfl, ?_, ⟨_, rfl⟩, hW, hsame.mono (by decide) (by decide)⟩
  show Q_min3 Z  h0 n0 _ s₁.heap _
  rw [e0]
  exact ⟨rfl, N0, (Keep.refl h0 [])⟩
def Q_cb3 (Z : State) (a1 : Addr) (k1 : ClassId) (v0 : Int32) (v1 : Int32) (v2 : Int32) (h0 : Heap) (n0 : Nat) (v : Option Value) (h : Heap) (L : List Loc) : Prop := ∃ fr0 : Addr, ∃ fk0 : ClassId, v = some (.ref fr0) ∧ Fr n0 L ∧ Keep h0 h [] ∧ h0.size ≤ fr0 ∧ Arv Z h fr0 fk0 .byte (2 : Int32) [(.int v0), (.int v1)] (.int 0)
set_option maxRecDepth 65536 in
set_option maxHeartbeats 40000000 in
theorem rm_cb3 (l : Launch) (Z : State) (a0 : Array Value) (hw : ∀ d ∈ tables_1, d.before a0 Z = true) (ws : List Jvm.Cond) (a1 : Addr) (k1 : ClassId) (v0 : Int32) (v1 : Int32) (v2 : Int32) (h0 : Heap) (n0 : Nat) (Z0 : n0 ≤ h0.size) (H0 : Arv Z h0 a1 k1 .byte (3 : Int32) [(.int v0), (.int v1), (.int v2)] (.int 0)) :
    Met l Z Y17 jdk_65_method_133_code 5 (some (.array .byte)) ws ({ frames := 1, cells := 1, slots := 2, locals := 18 } : Room) #[(.ref a1), (.int 0), (.int 2)] h0 (Q_cb3 Z a1 k1 v0 v1 v2 h0 n0) := by
  refine own_body (plainFor_of_name pn28) ?_
  intro p e s m below meth c s₁ hx hby hret hlk hml hZ hown hnm X0 e0
  have N0 := Fr.nil n0
  refine Wp.back (U' := (s₁.setTop (mkF m 0 #[.val (.ref a1), .val (.int 0), .val (.int 2), .unset, .unset] []))) (fun t k => castTop (ef28_RII m a1 (0 : Int32) (2 : Int32)) k) ?_
  refine Wp.back (U' := (s₁.setTop (mkF m 2 #[.val (.ref a1), .val (.int 0), .val (.int 2), .unset, .unset] [(.int 2), (.int 0)]))) (fun t k => XS.iloadN X0.here hx rfl (hb hby d28_0) rfl (XS.iloadN X0.here hx rfl (hb hby d28_1) rfl k)) ?_
  obtain ⟨_, _, ⟨T1, L1, k1, n1⟩, -, X1, ⟨Lc1, hQ1, l1, y1, z1⟩, st1⟩ := Jvm.LawKit.callS X0 hx (y := Y6) hown (mvT hZ (ow hw 127 rfl)) (mvT hZ (ow hw 128 rfl)) (mvT hZ (ow hw 122 rfl)) (mvT hZ (ow hw 129 rfl)) (by decide) (backOf (W := 0) (rm_cl l Z a0 hw [] (0 : Int32) (2 : Int32)  h0 n0 Z0 (by decide)) hZ (ow hw 129 rfl) (ow hw 122 rfl) (by decide) (by decide)) (g := (mkF m 2 #[.val (.ref a1), .val (.int 0), .val (.int 2), .unset, .unset] [(.int 2), (.int 0)])) rfl (by rw [hml]; rfl) (argsL := [(.int 0), (.int 2)]) (rest := []) (lenOf pd_3 rfl) rfl (Nat.le_of_eq rfl) (hb hby d28_2) (fun _ _ => ⟨rfl, e0, (by decide : 0 + 0 ≤ _), (by decide : 0 + 0 ≤ _)⟩)
  dsimp only [Pt.U, Pt.locs, Pt.cells, Pt.slots] at X1 l1 y1 z1 st1 hQ1
  subst l1 y1 z1
  obtain ⟨rfl, N1q, K1⟩ := hQ1
  have f2_0 := Nat.le_trans Z0 K1.1
  have f2_1 := H0.keep K1 nin0
  have f2_2 := (Keep.refl h0 []).trans K1 all0
  have N1 := Fr.app N0 N1q
  refine Wp.back (U' := (T1.setTop (mkF m 5 #[.val (.ref a1), .val (.int 0), .val (.int 2), .unset, .unset] []))) st1 ?_
  refine Wp.back (U' := (T1.setTop (mkF m 10 #[.val (.ref a1), .val (.int 0), .val (.int 2), .val (.int 2), .unset] [(.int 2)]))) (fun t k => XS.iloadN X1.here hx rfl (hb hby d28_5) rfl (XS.iloadN X1.here hx rfl (hb hby d28_6) rfl (XS.isub X1.here hx rfl (hb hby d28_7) rfl (XS.istoreN X1.here hx rfl (hb hby d28_8) rfl (l' := #[.val (.ref a1), .val (.int 0), .val (.int 2), .val (.int 2), .unset]) rfl (XS.iloadN X1.here hx rfl (hb hby d28_9) rfl k))))) ?_
  obtain ⟨T3, h3, k3, X3, e3, E3, A3, st3⟩ := newP X1 hx hZ (ow hw 27 rfl) rfl (g := (mkF m 10 #[.val (.ref a1), .val (.int 0), .val (.int 2), .val (.int 2), .unset] [(.int 2)])) rfl (hb hby d28_10) rfl (by decide) (cap := 2) (by decide) (by decide) (by decide) (by decide)
  obtain ⟨b3, g3⟩ : ∃ z, z = T1.heap.size := ⟨_, rfl⟩
  rw [← g3] at A3 st3
  have ne_a1_b3 : a1 ≠ b3 := Nat.ne_of_lt (Nat.lt_of_lt_of_le f2_1.lt (Nat.le_of_eq g3.symm))
  have g_b3 : n0 ≤ b3 := Nat.le_trans f2_0 (Nat.le_of_eq g3.symm)
  have sz_b3 : h0.size ≤ b3 := Nat.le_trans f2_2.1 (Nat.le_of_eq g3.symm)
  have f4_0 := Nat.le_trans f2_0 E3.1
  have f4_1 := f2_1.ext E3
  have f4_2 := f2_2.ext E3
  have V3 : Arv Z h3 b3 k3 .byte (2 : Int32) [(.int 0), (.int 0)] (.int 0) := (Arv.new A3 (by decide)).pad (pad_rep [] (.int 0) 2)
  refine Wp.back (U' := (T3.setTop (mkF m 12 #[.val (.ref a1), .val (.int 0), .val (.int 2), .val (.int 2), .unset] [(.ref b3)]))) st3 ?_
  refine Wp.back (U' := (T3.setTop (mkF m 20 #[.val (.ref a1), .val (.int 0), .val (.int 2), .val (.int 2), .val (.ref b3)] [(.ref a1), (.int 0), (.ref b3), (.int 0), (.ref a1)]))) (fun t k => XS.astore X3.here hx rfl (hb hby d28_12) rfl rfl (l' := #[.val (.ref a1), .val (.int 0), .val (.int 2), .val (.int 2), .val (.ref b3)]) rfl (XS.aloadN X3.here hx rfl (hb hby d28_14) rfl rfl (XS.iloadN X3.here hx rfl (hb hby d28_15) rfl (XS.aload X3.here hx rfl (hb hby d28_16) rfl rfl (XT.iconstV X3.here hx rfl 0 (hb hby d28_18) (by decide) (XS.aloadN X3.here hx rfl (hb hby d28_19) rfl rfl k)))))) ?_
  have vq5 := f4_1
  obtain ⟨cl5, Ar5, -, qs5, qn5, -, -⟩ := vq5
  refine Wp.back (U' := (T3.setTop (mkF m 21 #[.val (.ref a1), .val (.int 0), .val (.int 2), .val (.int 2), .val (.ref b3)] [(.int 3), (.int 0), (.ref b3), (.int 0), (.ref a1)]))) (fun t k => X3.arraylength hx (by rw [e3]; exact Ar5.1) (State.isArrayOf_alike hZ.alike Ar5.2.1) (g := (mkF m 20 #[.val (.ref a1), .val (.int 0), .val (.int 2), .val (.int 2), .val (.ref b3)] [(.ref a1), (.int 0), (.ref b3), (.int 0), (.ref a1)])) rfl rfl (hb hby d28_20) t (by rw [len_of qs5 qn5]; exact k)) ?_
  refine Wp.back (U' := (T3.setTop (mkF m 24 #[.val (.ref a1), .val (.int 0), .val (.int 2), .val (.int 2), .val (.ref b3)] [(.int 2), (.int 3), (.int 0), (.ref b3), (.int 0), (.ref a1)]))) (fun t k => XS.iloadN X3.here hx rfl (hb hby d28_21) rfl (XS.isub X3.here hx rfl (hb hby d28_22) rfl (XS.iloadN X3.here hx rfl (hb hby d28_23) rfl k))) ?_
  obtain ⟨_, _, ⟨T6, L6, k6, n6⟩, -, X6, ⟨Lc6, hQ6, l6, y6, z6⟩, st6⟩ := Jvm.LawKit.callS X3 hx (y := Y16) hown (mvT hZ (ow hw 130 rfl)) (mvT hZ (ow hw 131 rfl)) (mvT hZ (ow hw 132 rfl)) (mvT hZ (ow hw 133 rfl)) (by decide) (backOf (W := 4) (rm_min3 l Z a0 hw []   h3 n0 f4_0 ) hZ (ow hw 133 rfl) (ow hw 132 rfl) (by decide) (by decide)) (g := (mkF m 24 #[.val (.ref a1), .val (.int 0), .val (.int 2), .val (.int 2), .val (.ref b3)] [(.int 2), (.int 3), (.int 0), (.ref b3), (.int 0), (.ref a1)])) rfl (by rw [hml]; rfl) (argsL := [(.int 3), (.int 2)]) (rest := [(.int 0), (.ref b3), (.int 0), (.ref a1)]) (lenOf pd_9 rfl) rfl (Nat.le_of_eq rfl) (hb hby d28_24) (fun _ _ => ⟨rfl, e3, (by decide : 1 + 0 ≤ _), (by decide : 2 + 0 ≤ _)⟩)
  dsimp only [Pt.U, Pt.locs, Pt.cells, Pt.slots] at X6 l6 y6 z6 st6 hQ6
  subst l6 y6 z6
  obtain ⟨rfl, N6q, K6⟩ := hQ6
  have f7_0 := Nat.le_trans f4_0 K6.1
  have f7_1 := f4_1.keep K6 nin0
  have f7_2 := f4_2.trans K6 all0
  have f7_3 := V3.keep K6 nin0
  have N6 := Fr.app N1 N6q
  refine Wp.back (U' := (T6.setTop (mkF m 27 #[.val (.ref a1), .val (.int 0), .val (.int 2), .val (.int 2), .val (.ref b3)] [(.int 2), (.int 0), (.ref b3), (.int 0), (.ref a1)]))) st6 ?_
  obtain ⟨T8, h8, L8, X8, e8, N8, K8, V8, st8⟩ := cpA X6 hx hZ hown (ow hw 134 rfl) (ow hw 137 rfl) (ow hw 135 rfl) (ow hw 136 rfl) rfl f7_1 f7_3 (Or.inl ⟨rfl, rfl⟩) (sp := (0 : Int32)) (dp := (0 : Int32)) (nn := (2 : Int32)) (us := [(.int v0), (.int v1)]) (by decide) (by decide) (by decide) (by decide) (by decide) rfl (by decide) N6 g_b3 (g := (mkF m 27 #[.val (.ref a1), .val (.int 0), .val (.int 2), .val (.int 2), .val (.ref b3)] [(.int 2), (.int 0), (.ref b3), (.int 0), (.ref a1)])) rfl (by rw [hml]; rfl) (rest := []) rfl (hb hby d28_27) (by decide) (W := 0) (Nat.le_of_eq rfl) (by decide)
  have f9_0 := Nat.le_trans f7_0 K8.1
  have f9_1 := f7_1.keep K8 (ninS ne_a1_b3 nin0)
  have f9_2 := f7_2.trans K8 (allS (Or.inr sz_b3) all0)
  have W8 : Arv Z h8 b3 k3 .byte (2 : Int32) [(.int v0), (.int v1)] (.int 0) := V8
  refine Wp.back (U' := (T8.setTop (mkF m 30 #[.val (.ref a1), .val (.int 0), .val (.int 2), .val (.int 2), .val (.ref b3)] []))) st8 ?_
  refine Wp.back (U' := (T8.setTop (mkF m 32 #[.val (.ref a1), .val (.int 0), .val (.int 2), .val (.int 2), .val (.ref b3)] [(.ref b3)]))) (fun t k => XS.aload X8.here hx rfl (hb hby d28_30) rfl rfl k) ?_
  obtain ⟨fs, hr, hrun, hended, hW, hsame⟩ := X8.leave (v := (some (.ref b3))) (fun h => by rw [hret] at h; cases h)
  refine Wp.done (retOut X8 hx hret rfl (Or.inr (Or.inr (Or.inr (Or.inr ⟨rfl, rfl, rfl⟩)))) (hb hby d28_32) hr) hrun hended ⟨_, _, rfl, ?_, ⟨_, rfl⟩, hW, hsame.mono (by decide) (by decide)⟩
  show Q_cb3 Z a1 k1 v0 v1 v2 h0 n0 _ T8.heap _
  rw [e8]
  exact ⟨b3, k3, rfl, N8, f9_2, sz_b3, W8⟩
def Q_co3 (Z : State) (a1 : Addr) (k1 : ClassId) (v0 : Int32) (v1 : Int32) (v2 : Int32) (h0 : Heap) (n0 : Nat) (v : Option Value) (h : Heap) (L : List Loc) : Prop := ∃ fr0 : Addr, ∃ fk0 : ClassId, v = some (.ref fr0) ∧ Fr n0 L ∧ Keep h0 h [] ∧ h0.size ≤ fr0 ∧ Arv Z h fr0 fk0 .byte (2 : Int32) [(.int v0), (.int v1)] (.int 0)
set_option maxRecDepth 65536 in
set_option maxHeartbeats 40000000 in
theorem rm_co3 (l : Launch) (Z : State) (a0 : Array Value) (hw : ∀ d ∈ tables_1, d.before a0 Z = true) (ws : List Jvm.Cond) (a1 : Addr) (k1 : ClassId) (v0 : Int32) (v1 : Int32) (v2 : Int32) (h0 : Heap) (n0 : Nat) (Z0 : n0 ≤ h0.size) (H0 : Arv Z h0 a1 k1 .byte (3 : Int32) [(.int v0), (.int v1), (.int v2)] (.int 0)) :
    Met l Z Y18 jdk_65_method_132_code 3 (some (.array .byte)) ws ({ frames := 2, cells := 1, slots := 2, locals := 34 } : Room) #[(.ref a1), (.int 0), (.int 2)] h0 (Q_co3 Z a1 k1 v0 v1 v2 h0 n0) := by
  refine own_body (plainFor_of_name pn27) ?_
  intro p e s m below meth c s₁ hx hby hret hlk hml hZ hown hnm X0 e0
  have N0 := Fr.nil n0
  refine Wp.back (U' := (s₁.setTop (mkF m 0 #[.val (.ref a1), .val (.int 0), .val (.int 2)] []))) (fun t k => castTop (ef27_RII m a1 (0 : Int32) (2 : Int32)) k) ?_
  refine Wp.back (U' := (s₁.setTop (mkF m 6 #[.val (.ref a1), .val (.int 0), .val (.int 2)] [(.ref a1), (.int 2)]))) (fun t k => XS.iloadN X0.here hx rfl (hb hby d27_0) rfl (XS.ifNo X0.here hx rfl (hb hby d27_1) rfl ((if0 _ _).trans (teq (by decide)).2) (XS.iloadN X0.here hx rfl (hb hby d27_4) rfl (XS.aloadN X0.here hx rfl (hb hby d27_5) rfl rfl k)))) ?_
  have vq1 := H0
  obtain ⟨cl1, Ar1, -, qs1, qn1, -, -⟩ := vq1
  refine Wp.back (U' := (s₁.setTop (mkF m 7 #[.val (.ref a1), .val (.int 0), .val (.int 2)] [(.int 3), (.int 2)]))) (fun t k => X0.arraylength hx (by rw [e0]; exact Ar1.1) (State.isArrayOf_alike hZ.alike Ar1.2.1) (g := (mkF m 6 #[.val (.ref a1), .val (.int 0), .val (.int 2)] [(.ref a1), (.int 2)])) rfl rfl (hb hby d27_6) t (by rw [len_of qs1 qn1]; exact k)) ?_
  refine Wp.back (U' := (s₁.setTop (mkF m 13 #[.val (.ref a1), .val (.int 0), .val (.int 2)] [(.int 2), (.int 0), (.ref a1)]))) (fun t k => XS.icmpNo X0.here hx rfl (hb hby d27_7) rfl (feq (by decide)).1 (XS.aloadN X0.here hx rfl (hb hby d27_10) rfl rfl (XS.iloadN X0.here hx rfl (hb hby d27_11) rfl (XS.iloadN X0.here hx rfl (hb hby d27_12) rfl k)))) ?_
  obtain ⟨_, _, ⟨T2, L2, k2, n2⟩, -, X2, ⟨Lc2, hQ2, l2, y2, z2⟩, st2⟩ := Jvm.LawKit.callS X0 hx (y := Y17) hown (mvT hZ (ow hw 124 rfl)) (mvT hZ (ow hw 125 rfl)) (mvT hZ (ow hw 122 rfl)) (mvT hZ (ow hw 126 rfl)) (by decide) (backOf (W := 0) (rm_cb3 l Z a0 hw [] a1 k1 v0 v1 v2 h0 n0 Z0 H0) hZ (ow hw 126 rfl) (ow hw 122 rfl) (by decide) (by decide)) (g := (mkF m 13 #[.val (.ref a1), .val (.int 0), .val (.int 2)] [(.int 2), (.int 0), (.ref a1)])) rfl (by rw [hml]; rfl) (argsL := [(.ref a1), (.int 0), (.int 2)]) (rest := []) (lenOf pd_10 rfl) rfl (Nat.le_of_eq rfl) (hb hby d27_13) (fun _ _ => ⟨rfl, e0, (by decide : 0 + 1 ≤ _), (by decide : 0 + 2 ≤ _)⟩)
  dsimp only [Pt.U, Pt.locs, Pt.cells, Pt.slots] at X2 l2 y2 z2 st2 hQ2
  subst l2 y2 z2
  obtain ⟨b2_0, k2_0, rfl, N2q, K2, sf2_0, o2_0⟩ := hQ2
  have ne_a1_b2_0 : a1 ≠ b2_0 := Nat.ne_of_lt (Nat.lt_of_lt_of_le H0.lt sf2_0)
  have g_b2_0 : n0 ≤ b2_0 := Nat.le_trans Z0 sf2_0
  have sz_b2_0 : h0.size ≤ b2_0 := Nat.le_trans (Keep.refl h0 []).1 sf2_0
  have f3_0 := Nat.le_trans Z0 K2.1
  have f3_1 := H0.keep K2 nin0
  have f3_2 := (Keep.refl h0 []).trans K2 all0
  have N2 := Fr.app N0 N2q
  refine Wp.back (U' := (T2.setTop (mkF m 16 #[.val (.ref a1), .val (.int 0), .val (.int 2)] [(.ref b2_0)]))) st2 ?_
  obtain ⟨fs, hr, hrun, hended, hW, hsame⟩ := X2.leave (v := (some (.ref b2_0))) (fun h => by rw [hret] at h; cases h)
  refine Wp.done (retOut X2 hx hret rfl (Or.inr (Or.inr (Or.inr (Or.inr ⟨rfl, rfl, rfl⟩)))) (hb hby d27_16) hr) hrun hended ⟨_, _, rfl, ?_, ⟨_, rfl⟩, hW, hsame.mono (by decide) (by decide)⟩
  show Q_co3 Z a1 k1 v0 v1 v2 h0 n0 _ T2.heap _
  exact ⟨b2_0, k2_0, rfl, N2, f3_2, sz_b2_0, o2_0⟩
def Q_nw3 (Z : State) (a1 : Addr) (k1 : ClassId) (v0 : Int32) (v1 : Int32) (v2 : Int32) (h0 : Heap) (n0 : Nat) (v : Option Value) (h : Heap) (L : List Loc) : Prop := ∃ fr0 : Addr, ∃ fr1 : Addr, ∃ fk0 : ClassId, v = some (.ref fr0) ∧ Fr n0 L ∧ Keep h0 h [] ∧ h0.size ≤ fr0 ∧ h0.size ≤ fr1 ∧ Exa Z h fr0 "java/lang/String" ∧ Fld Z h fr0 "java/lang/String" "value" "[B" (.ref fr1) ∧ Fld Z h fr0 "java/lang/String" "coder" "B" (.int 0) ∧ Arv Z h fr1 fk0 .byte (2 : Int32) [(.int v0), (.int v1)] (.int 0)
set_option maxRecDepth 65536 in
set_option maxHeartbeats 40000000 in
theorem rm_nw3 (l : Launch) (Z : State) (a0 : Array Value) (hw : ∀ d ∈ tables_1, d.before a0 Z = true) (ws : List Jvm.Cond) (a1 : Addr) (k1 : ClassId) (v0 : Int32) (v1 : Int32) (v2 : Int32) (h0 : Heap) (n0 : Nat) (Z0 : n0 ≤ h0.size) (H0 : Arv Z h0 a1 k1 .byte (3 : Int32) [(.int v0), (.int v1), (.int v2)] (.int 0)) :
    Met l Z Y19 jdk_43_method_47_code 3 (some (.object "java/lang/String")) ws ({ frames := 3, cells := 2, slots := 6, locals := 50 } : Room) #[(.ref a1), (.int 0), (.int 2)] h0 (Q_nw3 Z a1 k1 v0 v1 v2 h0 n0) := by
  refine own_body (plainFor_of_name pn26) ?_
  intro p e s m below meth c s₁ hx hby hret hlk hml hZ hown hnm X0 e0
  have N0 := Fr.nil n0
  refine Wp.back (U' := (s₁.setTop (mkF m 0 #[.val (.ref a1), .val (.int 0), .val (.int 2)] []))) (fun t k => castTop (ef26_RII m a1 (0 : Int32) (2 : Int32)) k) ?_
  refine Wp.back (U' := (s₁.setTop (mkF m 7 #[.val (.ref a1), .val (.int 0), .val (.int 2)] []))) (fun t k => XS.iloadN X0.here hx rfl (hb hby d26_0) rfl (XS.ifYes X0.here hx rfl (pc0 := 1) (pc' := 7) rfl (hb hby d26_1) rfl ((if0 _ _).trans (feq (by decide)).2) (by decide) (by decide) k)) ?_
  obtain ⟨T1, h1, X1, e1, E1, A1, D1, -, st1⟩ := newO X0 hx hZ hown (ow hw 119 rfl) (ow hw 10 rfl) (ow hw 11 rfl) e0 (g := (mkF m 7 #[.val (.ref a1), .val (.int 0), .val (.int 2)] [])) rfl (hb hby d26_7) (by decide) (by decide)
  obtain ⟨b1, g1⟩ : ∃ z, z = h0.size := ⟨_, rfl⟩
  rw [← g1] at A1 D1 st1
  have ne_a1_b1 : a1 ≠ b1 := Nat.ne_of_lt (Nat.lt_of_lt_of_le H0.lt (Nat.le_of_eq g1.symm))
  have g_b1 : n0 ≤ b1 := Nat.le_trans Z0 (Nat.le_of_eq g1.symm)
  have sz_b1 : h0.size ≤ b1 := Nat.le_trans (Keep.refl h0 []).1 (Nat.le_of_eq g1.symm)
  have f2_0 := Nat.le_trans Z0 E1.1
  have f2_1 := H0.ext E1
  have f2_2 := (Keep.refl h0 []).ext E1
  have F1_35 : Fld Z h1 b1 "java/lang/String" "coder" "B" (.int 0) := D1 (Or.inr (ow hw 35 rfl)) (ty := .byte) (by decide)
  have F1_37 : Fld Z h1 b1 "java/lang/String" "value" "[B" .null := D1 (Or.inr (ow hw 37 rfl)) (ty := (.array .byte)) (by decide)
  refine Wp.back (U' := (T1.setTop (mkF m 10 #[.val (.ref a1), .val (.int 0), .val (.int 2)] [(.ref b1)]))) st1 ?_
  refine Wp.back (U' := (T1.setTop (mkF m 16 #[.val (.ref a1), .val (.int 0), .val (.int 2)] [(.int 2), (.int 0), (.ref a1), (.ref b1), (.ref b1)]))) (fun t k => XS.dup X1.here hx rfl (hb hby d26_10) rfl rfl (XS.aloadN X1.here hx rfl (hb hby d26_11) rfl rfl (XS.iloadN X1.here hx rfl (hb hby d26_12) rfl (XS.iloadN X1.here hx rfl (hb hby d26_13) rfl (XS.iloadN X1.here hx rfl (hb hby d26_14) rfl (XS.iadd X1.here hx rfl (hb hby d26_15) rfl k)))))) ?_
  obtain ⟨_, _, ⟨T3, L3, k3, n3⟩, -, X3, ⟨Lc3, hQ3, l3, y3, z3⟩, st3⟩ := Jvm.LawKit.callS X1 hx (y := Y18) hown (mvT hZ (ow hw 120 rfl)) (mvT hZ (ow hw 121 rfl)) (mvT hZ (ow hw 122 rfl)) (mvT hZ (ow hw 123 rfl)) (by decide) (backOf (W := 2) (rm_co3 l Z a0 hw [] a1 k1 v0 v1 v2 h1 n0 f2_0 f2_1) hZ (ow hw 123 rfl) (ow hw 122 rfl) (by decide) (by decide)) (g := (mkF m 16 #[.val (.ref a1), .val (.int 0), .val (.int 2)] [(.int 2), (.int 0), (.ref a1), (.ref b1), (.ref b1)])) rfl (by rw [hml]; rfl) (argsL := [(.ref a1), (.int 0), (.int 2)]) (rest := [(.ref b1), (.ref b1)]) (lenOf pd_10 rfl) rfl (Nat.le_of_eq rfl) (hb hby d26_16) (fun _ _ => ⟨rfl, e1, (by decide : 1 + 1 ≤ _), (by decide : 4 + 2 ≤ _)⟩)
  dsimp only [Pt.U, Pt.locs, Pt.cells, Pt.slots] at X3 l3 y3 z3 st3 hQ3
  subst l3 y3 z3
  obtain ⟨b3_0, k3_0, rfl, N3q, K3, sf3_0, o3_0⟩ := hQ3
  have ne_a1_b3_0 : a1 ≠ b3_0 := Nat.ne_of_lt (Nat.lt_of_lt_of_le f2_1.lt sf3_0)
  have ne_b1_b3_0 : b1 ≠ b3_0 := Nat.ne_of_lt (Nat.lt_of_lt_of_le A1.lt sf3_0)
  have g_b3_0 : n0 ≤ b3_0 := Nat.le_trans f2_0 sf3_0
  have sz_b3_0 : h0.size ≤ b3_0 := Nat.le_trans f2_2.1 sf3_0
  have f4_0 := Nat.le_trans f2_0 K3.1
  have f4_1 := f2_1.keep K3 nin0
  have f4_2 := f2_2.trans K3 all0
  have f4_3 := A1.keep K3
  have f4_4 := F1_35.keep K3 nin0
  have f4_5 := F1_37.keep K3 nin0
  have N3 := Fr.app N0 N3q
  refine Wp.back (U' := (T3.setTop (mkF m 19 #[.val (.ref a1), .val (.int 0), .val (.int 2)] [(.ref b3_0), (.ref b1), (.ref b1)]))) st3 ?_
  refine Wp.back (U' := (T3.setTop (mkF m 20 #[.val (.ref a1), .val (.int 0), .val (.int 2)] [(.int 0), (.ref b3_0), (.ref b1), (.ref b1)]))) (fun t k => XT.iconstV X3.here hx rfl 0 (hb hby d26_19) (by decide) k) ?_
  obtain ⟨_, _, ⟨T5, L5, k5, n5⟩, -, X5, ⟨Lc5, hQ5, l5, y5, z5⟩, st5⟩ := X3.specialBack hx (y := Y15) rfl hown (mvT hZ (ow hw 138 rfl)) (mvT hZ (ow hw 139 rfl)) (mvT hZ (ow hw 140 rfl)) (by decide) (backOf (W := 1) (rm_sib l Z a0 hw [] b1 b3_0  T3.heap n0 f4_0 f4_3 f4_5 f4_4 g_b1) hZ (ow hw 140 rfl) (ow hw 11 rfl) (by decide) (by decide)) (g := (mkF m 20 #[.val (.ref a1), .val (.int 0), .val (.int 2)] [(.int 0), (.ref b3_0), (.ref b1), (.ref b1)])) rfl (by rw [hml]; rfl) (Steps.refl _) (a := b1) (argsL := [(.ref b3_0), (.int 0)]) (rest := [(.ref b1)]) (lenOf pd_11 rfl) rfl (Nat.le_of_eq rfl) (hb hby d26_20) (fun _ _ => ⟨rfl, rfl, (by decide : 2 + 0 ≤ _), (by decide : 6 + 0 ≤ _)⟩)
  dsimp only [Pt.U, Pt.locs, Pt.cells, Pt.slots] at X5 l5 y5 z5 st5 hQ5
  subst l5 y5 z5
  obtain ⟨rfl, N5q, K5, o5_0, o5_1, o5_2⟩ := hQ5
  have f6_0 := Nat.le_trans f4_0 K5.1
  have f6_1 := f4_1.keep K5 (ninS ne_a1_b1 nin0)
  have f6_2 := f4_2.trans K5 (allS (Or.inr sz_b1) all0)
  have f6_3 := f4_3.keep K5
  have f6_6 := o3_0.keep K5 (ninS (Ne.symm ne_b1_b3_0) nin0)
  have N5 := Fr.app N3 N5q
  refine Wp.back (U' := (T5.setTop (mkF m 23 #[.val (.ref a1), .val (.int 0), .val (.int 2)] [(.ref b1)]))) (fun t k => st5.trans k) ?_
  obtain ⟨fs, hr, hrun, hended, hW, hsame⟩ := X5.leave (v := (some (.ref b1))) (fun h => by rw [hret] at h; cases h)
  refine Wp.done (retOut X5 hx hret rfl (Or.inr (Or.inr (Or.inr (Or.inr ⟨rfl, rfl, rfl⟩)))) (hb hby d26_23) hr) hrun hended ⟨_, _, rfl, ?_, ⟨_, rfl⟩, hW, hsame.mono (by decide) (by decide)⟩
  show Q_nw3 Z a1 k1 v0 v1 v2 h0 n0 _ T5.heap _
  exact ⟨b1, b3_0, k3_0, rfl, N5, f6_2, sz_b1, sz_b3_0, o5_0, o5_1, o5_2, f6_6⟩
def Q_ss3 (Z : State) (ar : Addr) (a1 : Addr) (cs : Int32) (fm : Value) (k1 : ClassId) (v0 : Int32) (v1 : Int32) (v2 : Int32) (h0 : Heap) (n0 : Nat) (v : Option Value) (h : Heap) (L : List Loc) : Prop := ∃ fr0 : Addr, ∃ fr1 : Addr, ∃ fk0 : ClassId, v = some (.ref fr0) ∧ Fr n0 L ∧ Keep h0 h [] ∧ h0.size ≤ fr0 ∧ h0.size ≤ fr1 ∧ Exa Z h fr0 "java/lang/String" ∧ Fld Z h fr0 "java/lang/String" "value" "[B" (.ref fr1) ∧ Fld Z h fr0 "java/lang/String" "coder" "B" (.int 0) ∧ Arv Z h fr1 fk0 .byte (2 : Int32) [(.int v0), (.int v1)] (.int 0)
set_option maxRecDepth 65536 in
set_option maxHeartbeats 40000000 in
theorem rm_ss3 (l : Launch) (Z : State) (a0 : Array Value) (hw : ∀ d ∈ tables_1, d.before a0 Z = true) (ws : List Jvm.Cond) (ar : Addr) (a1 : Addr) (cs : Int32) (fm : Value) (k1 : ClassId) (v0 : Int32) (v1 : Int32) (v2 : Int32) (h0 : Heap) (n0 : Nat) (Z0 : n0 ≤ h0.size) (H0 : Exa Z h0 ar "java/lang/String") (H1 : Fld Z h0 ar "java/lang/String" "value" "[B" (.ref a1)) (H2 : Fld Z h0 ar "java/lang/String" "coder" "B" (.int 0)) (H3 : Arv Z h0 a1 k1 .byte (3 : Int32) [(.int v0), (.int v1), (.int v2)] (.int 0)) (H4 : Sta Z h0 "java/lang/String" "COMPACT_STRINGS" "Z" (.int cs)) (H5 : Sta Z h0 "jdk/internal/util/Preconditions" "SIOOBE_FORMATTER" "Ljava/util/function/BiFunction;" fm) (isr_fm : fm.isRef = true) (hcs : ¬ cs = (0 : Int32)) :
    Met l Z Y20 jdk_42_method_92_code 5 (some (.object "java/lang/String")) ws ({ frames := 4, cells := 2, slots := 6, locals := 64 } : Room) #[(.ref ar), (.int 0), (.int 2)] h0 (Q_ss3 Z ar a1 cs fm k1 v0 v1 v2 h0 n0) := by
  refine own_body (plainFor_of_name pn21) ?_
  intro p e s m below meth c s₁ hx hby hret hlk hml hZ hown hnm X0 e0
  have N0 := Fr.nil n0
  refine Wp.back (U' := (s₁.setTop (mkF m 0 #[.val (.ref ar), .val (.int 0), .val (.int 2), .unset, .unset] []))) (fun t k => castTop (ef21_RII m ar (0 : Int32) (2 : Int32)) k) ?_
  refine Wp.back (U' := (s₁.setTop (mkF m 1 #[.val (.ref ar), .val (.int 0), .val (.int 2), .unset, .unset] [(.ref ar)]))) (fun t k => XS.aloadN X0.here hx rfl (hb hby d21_0) rfl rfl k) ?_
  obtain ⟨cq1, kq1, q1a, q1b, q1c⟩ := isOf hZ e0 H0
  obtain ⟨_, _, ⟨T1, L1, k1, n1⟩, -, X1, ⟨Lc1, hQ1, l1, y1, z1⟩, st1⟩ := X0.virtualBack hx (y := Y9) (z := Y9) hown (mvT hZ (ow hw 51 rfl)) (mvT hZ (ow hw 52 rfl)) (notFace_of_selects (args := #[]) (mvT hZ (ow hw 54 rfl))) (mvT hZ (ow hw 54 rfl)) (mvT hZ (ow hw 53 rfl)) (by decide) (backOf (W := 0) (rm_len l Z a0 hw [] ar a1 k1 (3 : Int32) [(.int v0), (.int v1), (.int v2)] (.int 0) cs h0 n0 Z0 H0 H1 H2 H3 H4 hcs) hZ (ow hw 55 rfl) (ow hw 11 rfl) (by decide) (by decide)) q1a q1c (g := (mkF m 1 #[.val (.ref ar), .val (.int 0), .val (.int 2), .unset, .unset] [(.ref ar)])) rfl (by rw [hml]; rfl) (Steps.refl _) (argsL := []) (rest := []) (lenOf pd_6 rfl) rfl (Nat.le_of_eq rfl) (hb hby d21_1) (fun _ _ => ⟨rfl, e0, (by decide : 0 + 0 ≤ _), (by decide : 0 + 0 ≤ _)⟩)
  dsimp only [Pt.U, Pt.locs, Pt.cells, Pt.slots] at X1 l1 y1 z1 st1 hQ1
  subst l1 y1 z1
  obtain ⟨rfl, N1q, K1⟩ := hQ1
  have f2_0 := Nat.le_trans Z0 K1.1
  have f2_1 := H0.keep K1
  have f2_2 := H1.keep K1 nin0
  have f2_3 := H2.keep K1 nin0
  have f2_4 := H3.keep K1 nin0
  have f2_5 := Sta_keep0 H4 K1
  have f2_6 := Sta_keep0 H5 K1
  have f2_7 := (Keep.refl h0 []).trans K1 all0
  have N1 := Fr.app N0 N1q
  refine Wp.back (U' := (T1.setTop (mkF m 4 #[.val (.ref ar), .val (.int 0), .val (.int 2), .unset, .unset] [(.int 3)]))) (fun t k => st1.trans k) ?_
  refine Wp.back (U' := (T1.setTop (mkF m 8 #[.val (.ref ar), .val (.int 0), .val (.int 2), .val (.int 3), .unset] [(.int 3), (.int 2), (.int 0)]))) (fun t k => XS.istoreN X1.here hx rfl (hb hby d21_4) rfl (l' := #[.val (.ref ar), .val (.int 0), .val (.int 2), .val (.int 3), .unset]) rfl (XS.iloadN X1.here hx rfl (hb hby d21_5) rfl (XS.iloadN X1.here hx rfl (hb hby d21_6) rfl (XS.iloadN X1.here hx rfl (hb hby d21_7) rfl k)))) ?_
  obtain ⟨_, _, ⟨T3, L3, k3, n3⟩, -, X3, ⟨Lc3, hQ3, l3, y3, z3⟩, st3⟩ := Jvm.LawKit.callS X1 hx (y := Y5) hown (mvT hZ (ow hw 101 rfl)) (mvT hZ (ow hw 102 rfl)) (mvT hZ (ow hw 11 rfl)) (mvT hZ (ow hw 103 rfl)) (by decide) (backOf (W := 0) (rm_cbe l Z a0 hw [] (0 : Int32) (2 : Int32) (3 : Int32) fm T1.heap n0 f2_0 f2_6 isr_fm (by decide) (by decide) (by decide)) hZ (ow hw 103 rfl) (ow hw 11 rfl) (by decide) (by decide)) (g := (mkF m 8 #[.val (.ref ar), .val (.int 0), .val (.int 2), .val (.int 3), .unset] [(.int 3), (.int 2), (.int 0)])) rfl (by rw [hml]; rfl) (argsL := [(.int 0), (.int 2), (.int 3)]) (rest := []) (lenOf pd_12 rfl) rfl (Nat.le_of_eq rfl) (hb hby d21_8) (fun _ _ => ⟨rfl, rfl, (by decide : 0 + 0 ≤ _), (by decide : 0 + 0 ≤ _)⟩)
  dsimp only [Pt.U, Pt.locs, Pt.cells, Pt.slots] at X3 l3 y3 z3 st3 hQ3
  subst l3 y3 z3
  obtain ⟨rfl, N3q, K3⟩ := hQ3
  have f4_0 := Nat.le_trans f2_0 K3.1
  have f4_1 := f2_1.keep K3
  have f4_2 := f2_2.keep K3 nin0
  have f4_3 := f2_3.keep K3 nin0
  have f4_4 := f2_4.keep K3 nin0
  have f4_5 := Sta_keep0 f2_5 K3
  have f4_6 := Sta_keep0 f2_6 K3
  have f4_7 := f2_7.trans K3 all0
  have N3 := Fr.app N1 N3q
  refine Wp.back (U' := (T3.setTop (mkF m 11 #[.val (.ref ar), .val (.int 0), .val (.int 2), .val (.int 3), .unset] []))) st3 ?_
  refine Wp.back (U' := (T3.setTop (mkF m 28 #[.val (.ref ar), .val (.int 0), .val (.int 2), .val (.int 3), .val (.int 2)] [(.ref ar)]))) (fun t k => XS.iloadN X3.here hx rfl (hb hby d21_11) rfl (XS.ifNo X3.here hx rfl (hb hby d21_12) rfl ((if0 _ _).trans (teq (by decide)).2) (XS.iloadN X3.here hx rfl (hb hby d21_15) rfl (XS.iloadN X3.here hx rfl (hb hby d21_16) rfl (XS.icmpYes X3.here hx rfl (pc0 := 17) (pc' := 22) rfl (hb hby d21_17) rfl (feq (by decide)).2 (by decide) (by decide) (XS.iloadN X3.here hx rfl (hb hby d21_22) rfl (XS.iloadN X3.here hx rfl (hb hby d21_23) rfl (XS.isub X3.here hx rfl (hb hby d21_24) rfl (XS.istore X3.here hx rfl (hb hby d21_25) rfl (l' := #[.val (.ref ar), .val (.int 0), .val (.int 2), .val (.int 3), .val (.int 2)]) rfl (XS.aloadN X3.here hx rfl (hb hby d21_27) rfl rfl k)))))))))) ?_
  obtain ⟨cq5, kq5, q5a, q5b, q5c⟩ := isOf hZ rfl f4_1
  obtain ⟨_, _, ⟨T5, L5, k5, n5⟩, -, X5, ⟨Lc5, hQ5, l5, y5, z5⟩, st5⟩ := X3.virtualBack hx (y := Y8) (z := Y8) hown (mvT hZ (ow hw 76 rfl)) (mvT hZ (ow hw 77 rfl)) (notFace_of_selects (args := #[]) (mvT hZ (ow hw 79 rfl))) (mvT hZ (ow hw 79 rfl)) (mvT hZ (ow hw 78 rfl)) (by decide) (backOf (W := 0) (rm_isl l Z a0 hw [] ar cs T3.heap n0 f4_0 f4_3 f4_5 hcs) hZ (ow hw 80 rfl) (ow hw 11 rfl) (by decide) (by decide)) q5a q5c (g := (mkF m 28 #[.val (.ref ar), .val (.int 0), .val (.int 2), .val (.int 3), .val (.int 2)] [(.ref ar)])) rfl (by rw [hml]; rfl) (Steps.refl _) (argsL := []) (rest := []) (lenOf pd_4 rfl) rfl (Nat.le_of_eq rfl) (hb hby d21_28) (fun _ _ => ⟨rfl, rfl, (by decide : 0 + 0 ≤ _), (by decide : 0 + 0 ≤ _)⟩)
  dsimp only [Pt.U, Pt.locs, Pt.cells, Pt.slots] at X5 l5 y5 z5 st5 hQ5
  subst l5 y5 z5
  obtain ⟨rfl, N5q, K5⟩ := hQ5
  have f6_0 := Nat.le_trans f4_0 K5.1
  have f6_1 := f4_1.keep K5
  have f6_2 := f4_2.keep K5 nin0
  have f6_3 := f4_3.keep K5 nin0
  have f6_4 := f4_4.keep K5 nin0
  have f6_5 := Sta_keep0 f4_5 K5
  have f6_6 := Sta_keep0 f4_6 K5
  have f6_7 := f4_7.trans K5 all0
  have N5 := Fr.app N3 N5q
  refine Wp.back (U' := (T5.setTop (mkF m 31 #[.val (.ref ar), .val (.int 0), .val (.int 2), .val (.int 3), .val (.int 2)] [(.int 1)]))) (fun t k => st5.trans k) ?_
  refine Wp.back (U' := (T5.setTop (mkF m 35 #[.val (.ref ar), .val (.int 0), .val (.int 2), .val (.int 3), .val (.int 2)] [(.ref ar)]))) (fun t k => XS.ifNo X5.here hx rfl (hb hby d21_31) rfl ((if0 _ _).trans (feq (by decide)).1) (XS.aloadN X5.here hx rfl (hb hby d21_34) rfl rfl k)) ?_
  obtain ⟨T7, X7, e7, st7⟩ := getF X5 hx hZ hown (host := "") (Or.inl (ow hw 36 rfl)) Via.refl rfl f6_2 (g := (mkF m 35 #[.val (.ref ar), .val (.int 0), .val (.int 2), .val (.int 3), .val (.int 2)] [(.ref ar)])) rfl rfl (hb hby d21_35)
  refine Wp.back (U' := (T7.setTop (mkF m 38 #[.val (.ref ar), .val (.int 0), .val (.int 2), .val (.int 3), .val (.int 2)] [(.ref a1)]))) st7 ?_
  refine Wp.back (U' := (T7.setTop (mkF m 41 #[.val (.ref ar), .val (.int 0), .val (.int 2), .val (.int 3), .val (.int 2)] [(.int 2), (.int 0), (.ref a1)]))) (fun t k => XS.iloadN X7.here hx rfl (hb hby d21_38) rfl (XS.iload X7.here hx rfl (hb hby d21_39) rfl k)) ?_
  obtain ⟨_, _, ⟨T8, L8, k8, n8⟩, -, X8, ⟨Lc8, hQ8, l8, y8, z8⟩, st8⟩ := Jvm.LawKit.callS X7 hx (y := Y19) hown (mvT hZ (ow hw 116 rfl)) (mvT hZ (ow hw 117 rfl)) (mvT hZ (ow hw 83 rfl)) (mvT hZ (ow hw 118 rfl)) (by decide) (backOf (W := 0) (rm_nw3 l Z a0 hw [] a1 k1 v0 v1 v2 T5.heap n0 f6_0 f6_4) hZ (ow hw 118 rfl) (ow hw 83 rfl) (by decide) (by decide)) (g := (mkF m 41 #[.val (.ref ar), .val (.int 0), .val (.int 2), .val (.int 3), .val (.int 2)] [(.int 2), (.int 0), (.ref a1)])) rfl (by rw [hml]; rfl) (argsL := [(.ref a1), (.int 0), (.int 2)]) (rest := []) (lenOf pd_13 rfl) rfl (Nat.le_of_eq rfl) (hb hby d21_41) (fun _ _ => ⟨rfl, e7, (by decide : 0 + 2 ≤ _), (by decide : 0 + 6 ≤ _)⟩)
  dsimp only [Pt.U, Pt.locs, Pt.cells, Pt.slots] at X8 l8 y8 z8 st8 hQ8
  subst l8 y8 z8
  obtain ⟨b8_0, b8_1, k8_0, rfl, N8q, K8, sf8_0, sf8_1, o8_0, o8_1, o8_2, o8_3⟩ := hQ8
  have ne_ar_b8_0 : ar ≠ b8_0 := Nat.ne_of_lt (Nat.lt_of_lt_of_le f6_1.lt sf8_0)
  have ne_a1_b8_0 : a1 ≠ b8_0 := Nat.ne_of_lt (Nat.lt_of_lt_of_le f6_4.lt sf8_0)
  have g_b8_0 : n0 ≤ b8_0 := Nat.le_trans f6_0 sf8_0
  have sz_b8_0 : h0.size ≤ b8_0 := Nat.le_trans f6_7.1 sf8_0
  have ne_ar_b8_1 : ar ≠ b8_1 := Nat.ne_of_lt (Nat.lt_of_lt_of_le f6_1.lt sf8_1)
  have ne_a1_b8_1 : a1 ≠ b8_1 := Nat.ne_of_lt (Nat.lt_of_lt_of_le f6_4.lt sf8_1)
  have g_b8_1 : n0 ≤ b8_1 := Nat.le_trans f6_0 sf8_1
  have sz_b8_1 : h0.size ≤ b8_1 := Nat.le_trans f6_7.1 sf8_1
  have f9_0 := Nat.le_trans f6_0 K8.1
  have f9_1 := f6_1.keep K8
  have f9_2 := f6_2.keep K8 nin0
  have f9_3 := f6_3.keep K8 nin0
  have f9_4 := f6_4.keep K8 nin0
  have f9_5 := Sta_keep0 f6_5 K8
  have f9_6 := Sta_keep0 f6_6 K8
  have f9_7 := f6_7.trans K8 all0
  have N8 := Fr.app N5 N8q
  refine Wp.back (U' := (T8.setTop (mkF m 44 #[.val (.ref ar), .val (.int 0), .val (.int 2), .val (.int 3), .val (.int 2)] [(.ref b8_0)]))) st8 ?_
  refine Wp.back (U' := (T8.setTop (mkF m 57 #[.val (.ref ar), .val (.int 0), .val (.int 2), .val (.int 3), .val (.int 2)] [(.ref b8_0)]))) (fun t k => XS.goto X8.here hx rfl (pc0 := 44) (pc' := 57) rfl (hb hby d21_44) (by decide) (by decide) k) ?_
  obtain ⟨fs, hr, hrun, hended, hW, hsame⟩ := X8.leave (v := (some (.ref b8_0))) (fun h => by rw [hret] at h; cases h)
  refine Wp.done (retOut X8 hx hret rfl (Or.inr (Or.inr (Or.inr (Or.inr ⟨rfl, rfl, rfl⟩)))) (hb hby d21_57) hr) hrun hended ⟨_, _, rfl, ?_, ⟨_, rfl⟩, hW, hsame.mono (by decide) (by decide)⟩
  show Q_ss3 Z ar a1 cs fm k1 v0 v1 v2 h0 n0 _ T8.heap _
  exact ⟨b8_0, b8_1, k8_0, rfl, N8, f9_7, sz_b8_0, sz_b8_1, o8_0, o8_1, o8_2, o8_3⟩
def Q_min4 (Z : State)   (h0 : Heap) (n0 : Nat) (v : Option Value) (h : Heap) (L : List Loc) : Prop := v = some (.int 3) ∧ Fr n0 L ∧ Keep h0 h []
set_option maxRecDepth 65536 in
set_option maxHeartbeats 40000000 in
theorem rm_min4 (l : Launch) (Z : State) (a0 : Array Value) (hw : ∀ d ∈ tables_1, d.before a0 Z = true) (ws : List Jvm.Cond)   (h0 : Heap) (n0 : Nat) (Z0 : n0 ≤ h0.size)  :
    Met l Z Y16 jdk_29_method_69_code 2 (some .int) ws ({ frames := 0, cells := 0, slots := 0, locals := 0 } : Room) #[(.int 4), (.int 3)] h0 (Q_min4 Z  h0 n0) := by
  refine own_body (Jvm.Free.JP.mathPlain rfl (by decide +kernel)) ?_
  intro p e s m below meth c s₁ hx hby hret hlk hml hZ hown hnm X0 e0
  have N0 := Fr.nil n0
  refine Wp.back (U' := (s₁.setTop (mkF m 0 #[.val (.int 4), .val (.int 3)] []))) (fun t k => castTop (ef30_II m (4 : Int32) (3 : Int32)) k) ?_
  refine Wp.back (U' := (s₁.setTop (mkF m 10 #[.val (.int 4), .val (.int 3)] [(.int 3)]))) (fun t k => XS.iloadN X0.here hx rfl (hb hby d30_0) rfl (XS.iloadN X0.here hx rfl (hb hby d30_1) rfl (XS.icmpYes X0.here hx rfl (pc0 := 2) (pc' := 9) rfl (hb hby d30_2) rfl (tlt (by decide)).2.2.1 (by decide) (by decide) (XS.iloadN X0.here hx rfl (hb hby d30_9) rfl k)))) ?_
  obtain ⟨fs, hr, hrun, hended, hW, hsame⟩ := X0.leave (v := (some (.int 3))) (fun h => by rw [hret] at h; cases h)
  refine Wp.done (retI X0 hx hret (hb hby d30_10) hr) hrun hended ⟨_, _, rfl, ?_, ⟨_, rfl⟩, hW, hsame.mono (by decide) (by decide)⟩
  show Q_min4 Z  h0 n0 _ s₁.heap _
  rw [e0]
  exact ⟨rfl, N0, (Keep.refl h0 [])⟩
def Q_cb4 (Z : State) (a1 : Addr) (k1 : ClassId) (v0 : Int32) (v1 : Int32) (v2 : Int32) (v3 : Int32) (h0 : Heap) (n0 : Nat) (v : Option Value) (h : Heap) (L : List Loc) : Prop := ∃ fr0 : Addr, ∃ fk0 : ClassId, v = some (.ref fr0) ∧ Fr n0 L ∧ Keep h0 h [] ∧ h0.size ≤ fr0 ∧ Arv Z h fr0 fk0 .byte (3 : Int32) [(.int v0), (.int v1), (.int v2)] (.int 0)
set_option maxRecDepth 65536 in
set_option maxHeartbeats 40000000 in
theorem rm_cb4 (l : Launch) (Z : State) (a0 : Array Value) (hw : ∀ d ∈ tables_1, d.before a0 Z = true) (ws : List Jvm.Cond) (a1 : Addr) (k1 : ClassId) (v0 : Int32) (v1 : Int32) (v2 : Int32) (v3 : Int32) (h0 : Heap) (n0 : Nat) (Z0 : n0 ≤ h0.size) (H0 : Arv Z h0 a1 k1 .byte (4 : Int32) [(.int v0), (.int v1), (.int v2), (.int v3)] (.int 0)) :
    Met l Z Y17 jdk_65_method_133_code 5 (some (.array .byte)) ws ({ frames := 1, cells := 1, slots := 3, locals := 18 } : Room) #[(.ref a1), (.int 0), (.int 3)] h0 (Q_cb4 Z a1 k1 v0 v1 v2 v3 h0 n0) := by
  refine own_body (plainFor_of_name pn28) ?_
  intro p e s m below meth c s₁ hx hby hret hlk hml hZ hown hnm X0 e0
  have N0 := Fr.nil n0
  refine Wp.back (U' := (s₁.setTop (mkF m 0 #[.val (.ref a1), .val (.int 0), .val (.int 3), .unset, .unset] []))) (fun t k => castTop (ef28_RII m a1 (0 : Int32) (3 : Int32)) k) ?_
  refine Wp.back (U' := (s₁.setTop (mkF m 2 #[.val (.ref a1), .val (.int 0), .val (.int 3), .unset, .unset] [(.int 3), (.int 0)]))) (fun t k => XS.iloadN X0.here hx rfl (hb hby d28_0) rfl (XS.iloadN X0.here hx rfl (hb hby d28_1) rfl k)) ?_
  obtain ⟨_, _, ⟨T1, L1, k1, n1⟩, -, X1, ⟨Lc1, hQ1, l1, y1, z1⟩, st1⟩ := Jvm.LawKit.callS X0 hx (y := Y6) hown (mvT hZ (ow hw 127 rfl)) (mvT hZ (ow hw 128 rfl)) (mvT hZ (ow hw 122 rfl)) (mvT hZ (ow hw 129 rfl)) (by decide) (backOf (W := 0) (rm_cl l Z a0 hw [] (0 : Int32) (3 : Int32)  h0 n0 Z0 (by decide)) hZ (ow hw 129 rfl) (ow hw 122 rfl) (by decide) (by decide)) (g := (mkF m 2 #[.val (.ref a1), .val (.int 0), .val (.int 3), .unset, .unset] [(.int 3), (.int 0)])) rfl (by rw [hml]; rfl) (argsL := [(.int 0), (.int 3)]) (rest := []) (lenOf pd_3 rfl) rfl (Nat.le_of_eq rfl) (hb hby d28_2) (fun _ _ => ⟨rfl, e0, (by decide : 0 + 0 ≤ _), (by decide : 0 + 0 ≤ _)⟩)
  dsimp only [Pt.U, Pt.locs, Pt.cells, Pt.slots] at X1 l1 y1 z1 st1 hQ1
  subst l1 y1 z1
  obtain ⟨rfl, N1q, K1⟩ := hQ1
  have f2_0 := Nat.le_trans Z0 K1.1
  have f2_1 := H0.keep K1 nin0
  have f2_2 := (Keep.refl h0 []).trans K1 all0
  have N1 := Fr.app N0 N1q
  refine Wp.back (U' := (T1.setTop (mkF m 5 #[.val (.ref a1), .val (.int 0), .val (.int 3), .unset, .unset] []))) st1 ?_
  refine Wp.back (U' := (T1.setTop (mkF m 10 #[.val (.ref a1), .val (.int 0), .val (.int 3), .val (.int 3), .unset] [(.int 3)]))) (fun t k => XS.iloadN X1.here hx rfl (hb hby d28_5) rfl (XS.iloadN X1.here hx rfl (hb hby d28_6) rfl (XS.isub X1.here hx rfl (hb hby d28_7) rfl (XS.istoreN X1.here hx rfl (hb hby d28_8) rfl (l' := #[.val (.ref a1), .val (.int 0), .val (.int 3), .val (.int 3), .unset]) rfl (XS.iloadN X1.here hx rfl (hb hby d28_9) rfl k))))) ?_
  obtain ⟨T3, h3, k3, X3, e3, E3, A3, st3⟩ := newP X1 hx hZ (ow hw 27 rfl) rfl (g := (mkF m 10 #[.val (.ref a1), .val (.int 0), .val (.int 3), .val (.int 3), .unset] [(.int 3)])) rfl (hb hby d28_10) rfl (by decide) (cap := 3) (by decide) (by decide) (by decide) (by decide)
  obtain ⟨b3, g3⟩ : ∃ z, z = T1.heap.size := ⟨_, rfl⟩
  rw [← g3] at A3 st3
  have ne_a1_b3 : a1 ≠ b3 := Nat.ne_of_lt (Nat.lt_of_lt_of_le f2_1.lt (Nat.le_of_eq g3.symm))
  have g_b3 : n0 ≤ b3 := Nat.le_trans f2_0 (Nat.le_of_eq g3.symm)
  have sz_b3 : h0.size ≤ b3 := Nat.le_trans f2_2.1 (Nat.le_of_eq g3.symm)
  have f4_0 := Nat.le_trans f2_0 E3.1
  have f4_1 := f2_1.ext E3
  have f4_2 := f2_2.ext E3
  have V3 : Arv Z h3 b3 k3 .byte (3 : Int32) [(.int 0), (.int 0), (.int 0)] (.int 0) := (Arv.new A3 (by decide)).pad (pad_rep [] (.int 0) 3)
  refine Wp.back (U' := (T3.setTop (mkF m 12 #[.val (.ref a1), .val (.int 0), .val (.int 3), .val (.int 3), .unset] [(.ref b3)]))) st3 ?_
  refine Wp.back (U' := (T3.setTop (mkF m 20 #[.val (.ref a1), .val (.int 0), .val (.int 3), .val (.int 3), .val (.ref b3)] [(.ref a1), (.int 0), (.ref b3), (.int 0), (.ref a1)]))) (fun t k => XS.astore X3.here hx rfl (hb hby d28_12) rfl rfl (l' := #[.val (.ref a1), .val (.int 0), .val (.int 3), .val (.int 3), .val (.ref b3)]) rfl (XS.aloadN X3.here hx rfl (hb hby d28_14) rfl rfl (XS.iloadN X3.here hx rfl (hb hby d28_15) rfl (XS.aload X3.here hx rfl (hb hby d28_16) rfl rfl (XT.iconstV X3.here hx rfl 0 (hb hby d28_18) (by decide) (XS.aloadN X3.here hx rfl (hb hby d28_19) rfl rfl k)))))) ?_
  have vq5 := f4_1
  obtain ⟨cl5, Ar5, -, qs5, qn5, -, -⟩ := vq5
  refine Wp.back (U' := (T3.setTop (mkF m 21 #[.val (.ref a1), .val (.int 0), .val (.int 3), .val (.int 3), .val (.ref b3)] [(.int 4), (.int 0), (.ref b3), (.int 0), (.ref a1)]))) (fun t k => X3.arraylength hx (by rw [e3]; exact Ar5.1) (State.isArrayOf_alike hZ.alike Ar5.2.1) (g := (mkF m 20 #[.val (.ref a1), .val (.int 0), .val (.int 3), .val (.int 3), .val (.ref b3)] [(.ref a1), (.int 0), (.ref b3), (.int 0), (.ref a1)])) rfl rfl (hb hby d28_20) t (by rw [len_of qs5 qn5]; exact k)) ?_
  refine Wp.back (U' := (T3.setTop (mkF m 24 #[.val (.ref a1), .val (.int 0), .val (.int 3), .val (.int 3), .val (.ref b3)] [(.int 3), (.int 4), (.int 0), (.ref b3), (.int 0), (.ref a1)]))) (fun t k => XS.iloadN X3.here hx rfl (hb hby d28_21) rfl (XS.isub X3.here hx rfl (hb hby d28_22) rfl (XS.iloadN X3.here hx rfl (hb hby d28_23) rfl k))) ?_
  obtain ⟨_, _, ⟨T6, L6, k6, n6⟩, -, X6, ⟨Lc6, hQ6, l6, y6, z6⟩, st6⟩ := Jvm.LawKit.callS X3 hx (y := Y16) hown (mvT hZ (ow hw 130 rfl)) (mvT hZ (ow hw 131 rfl)) (mvT hZ (ow hw 132 rfl)) (mvT hZ (ow hw 133 rfl)) (by decide) (backOf (W := 4) (rm_min4 l Z a0 hw []   h3 n0 f4_0 ) hZ (ow hw 133 rfl) (ow hw 132 rfl) (by decide) (by decide)) (g := (mkF m 24 #[.val (.ref a1), .val (.int 0), .val (.int 3), .val (.int 3), .val (.ref b3)] [(.int 3), (.int 4), (.int 0), (.ref b3), (.int 0), (.ref a1)])) rfl (by rw [hml]; rfl) (argsL := [(.int 4), (.int 3)]) (rest := [(.int 0), (.ref b3), (.int 0), (.ref a1)]) (lenOf pd_9 rfl) rfl (Nat.le_of_eq rfl) (hb hby d28_24) (fun _ _ => ⟨rfl, e3, (by decide : 1 + 0 ≤ _), (by decide : 3 + 0 ≤ _)⟩)
  dsimp only [Pt.U, Pt.locs, Pt.cells, Pt.slots] at X6 l6 y6 z6 st6 hQ6
  subst l6 y6 z6
  obtain ⟨rfl, N6q, K6⟩ := hQ6
  have f7_0 := Nat.le_trans f4_0 K6.1
  have f7_1 := f4_1.keep K6 nin0
  have f7_2 := f4_2.trans K6 all0
  have f7_3 := V3.keep K6 nin0
  have N6 := Fr.app N1 N6q
  refine Wp.back (U' := (T6.setTop (mkF m 27 #[.val (.ref a1), .val (.int 0), .val (.int 3), .val (.int 3), .val (.ref b3)] [(.int 3), (.int 0), (.ref b3), (.int 0), (.ref a1)]))) st6 ?_
  obtain ⟨T8, h8, L8, X8, e8, N8, K8, V8, st8⟩ := cpA X6 hx hZ hown (ow hw 134 rfl) (ow hw 137 rfl) (ow hw 135 rfl) (ow hw 136 rfl) rfl f7_1 f7_3 (Or.inl ⟨rfl, rfl⟩) (sp := (0 : Int32)) (dp := (0 : Int32)) (nn := (3 : Int32)) (us := [(.int v0), (.int v1), (.int v2)]) (by decide) (by decide) (by decide) (by decide) (by decide) rfl (by decide) N6 g_b3 (g := (mkF m 27 #[.val (.ref a1), .val (.int 0), .val (.int 3), .val (.int 3), .val (.ref b3)] [(.int 3), (.int 0), (.ref b3), (.int 0), (.ref a1)])) rfl (by rw [hml]; rfl) (rest := []) rfl (hb hby d28_27) (by decide) (W := 0) (Nat.le_of_eq rfl) (by decide)
  have f9_0 := Nat.le_trans f7_0 K8.1
  have f9_1 := f7_1.keep K8 (ninS ne_a1_b3 nin0)
  have f9_2 := f7_2.trans K8 (allS (Or.inr sz_b3) all0)
  have W8 : Arv Z h8 b3 k3 .byte (3 : Int32) [(.int v0), (.int v1), (.int v2)] (.int 0) := V8
  refine Wp.back (U' := (T8.setTop (mkF m 30 #[.val (.ref a1), .val (.int 0), .val (.int 3), .val (.int 3), .val (.ref b3)] []))) st8 ?_
  refine Wp.back (U' := (T8.setTop (mkF m 32 #[.val (.ref a1), .val (.int 0), .val (.int 3), .val (.int 3), .val (.ref b3)] [(.ref b3)]))) (fun t k => XS.aload X8.here hx rfl (hb hby d28_30) rfl rfl k) ?_
  obtain ⟨fs, hr, hrun, hended, hW, hsame⟩ := X8.leave (v := (some (.ref b3))) (fun h => by rw [hret] at h; cases h)
  refine Wp.done (retOut X8 hx hret rfl (Or.inr (Or.inr (Or.inr (Or.inr ⟨rfl, rfl, rfl⟩)))) (hb hby d28_32) hr) hrun hended ⟨_, _, rfl, ?_, ⟨_, rfl⟩, hW, hsame.mono (by decide) (by decide)⟩
  show Q_cb4 Z a1 k1 v0 v1 v2 v3 h0 n0 _ T8.heap _
  rw [e8]
  exact ⟨b3, k3, rfl, N8, f9_2, sz_b3, W8⟩
def Q_co4 (Z : State) (a1 : Addr) (k1 : ClassId) (v0 : Int32) (v1 : Int32) (v2 : Int32) (v3 : Int32) (h0 : Heap) (n0 : Nat) (v : Option Value) (h : Heap) (L : List Loc) : Prop := ∃ fr0 : Addr, ∃ fk0 : ClassId, v = some (.ref fr0) ∧ Fr n0 L ∧ Keep h0 h [] ∧ h0.size ≤ fr0 ∧ Arv Z h fr0 fk0 .byte (3 : Int32) [(.int v0), (.int v1), (.int v2)] (.int 0)
set_option maxRecDepth 65536 in
set_option maxHeartbeats 40000000 in
theorem rm_co4 (l : Launch) (Z : State) (a0 : Array Value) (hw : ∀ d ∈ tables_1, d.before a0 Z = true) (ws : List Jvm.Cond) (a1 : Addr) (k1 : ClassId) (v0 : Int32) (v1 : Int32) (v2 : Int32) (v3 : Int32) (h0 : Heap) (n0 : Nat) (Z0 : n0 ≤ h0.size) (H0 : Arv Z h0 a1 k1 .byte (4 : Int32) [(.int v0), (.int v1), (.int v2), (.int v3)] (.int 0)) :
    Met l Z Y18 jdk_65_method_132_code 3 (some (.array .byte)) ws ({ frames := 2, cells := 1, slots := 3, locals := 34 } : Room) #[(.ref a1), (.int 0), (.int 3)] h0 (Q_co4 Z a1 k1 v0 v1 v2 v3 h0 n0) := by
  refine own_body (plainFor_of_name pn27) ?_
  intro p e s m below meth c s₁ hx hby hret hlk hml hZ hown hnm X0 e0
  have N0 := Fr.nil n0
  refine Wp.back (U' := (s₁.setTop (mkF m 0 #[.val (.ref a1), .val (.int 0), .val (.int 3)] []))) (fun t k => castTop (ef27_RII m a1 (0 : Int32) (3 : Int32)) k) ?_
  refine Wp.back (U' := (s₁.setTop (mkF m 6 #[.val (.ref a1), .val (.int 0), .val (.int 3)] [(.ref a1), (.int 3)]))) (fun t k => XS.iloadN X0.here hx rfl (hb hby d27_0) rfl (XS.ifNo X0.here hx rfl (hb hby d27_1) rfl ((if0 _ _).trans (teq (by decide)).2) (XS.iloadN X0.here hx rfl (hb hby d27_4) rfl (XS.aloadN X0.here hx rfl (hb hby d27_5) rfl rfl k)))) ?_
  have vq1 := H0
  obtain ⟨cl1, Ar1, -, qs1, qn1, -, -⟩ := vq1
  refine Wp.back (U' := (s₁.setTop (mkF m 7 #[.val (.ref a1), .val (.int 0), .val (.int 3)] [(.int 4), (.int 3)]))) (fun t k => X0.arraylength hx (by rw [e0]; exact Ar1.1) (State.isArrayOf_alike hZ.alike Ar1.2.1) (g := (mkF m 6 #[.val (.ref a1), .val (.int 0), .val (.int 3)] [(.ref a1), (.int 3)])) rfl rfl (hb hby d27_6) t (by rw [len_of qs1 qn1]; exact k)) ?_
  refine Wp.back (U' := (s₁.setTop (mkF m 13 #[.val (.ref a1), .val (.int 0), .val (.int 3)] [(.int 3), (.int 0), (.ref a1)]))) (fun t k => XS.icmpNo X0.here hx rfl (hb hby d27_7) rfl (feq (by decide)).1 (XS.aloadN X0.here hx rfl (hb hby d27_10) rfl rfl (XS.iloadN X0.here hx rfl (hb hby d27_11) rfl (XS.iloadN X0.here hx rfl (hb hby d27_12) rfl k)))) ?_
  obtain ⟨_, _, ⟨T2, L2, k2, n2⟩, -, X2, ⟨Lc2, hQ2, l2, y2, z2⟩, st2⟩ := Jvm.LawKit.callS X0 hx (y := Y17) hown (mvT hZ (ow hw 124 rfl)) (mvT hZ (ow hw 125 rfl)) (mvT hZ (ow hw 122 rfl)) (mvT hZ (ow hw 126 rfl)) (by decide) (backOf (W := 0) (rm_cb4 l Z a0 hw [] a1 k1 v0 v1 v2 v3 h0 n0 Z0 H0) hZ (ow hw 126 rfl) (ow hw 122 rfl) (by decide) (by decide)) (g := (mkF m 13 #[.val (.ref a1), .val (.int 0), .val (.int 3)] [(.int 3), (.int 0), (.ref a1)])) rfl (by rw [hml]; rfl) (argsL := [(.ref a1), (.int 0), (.int 3)]) (rest := []) (lenOf pd_10 rfl) rfl (Nat.le_of_eq rfl) (hb hby d27_13) (fun _ _ => ⟨rfl, e0, (by decide : 0 + 1 ≤ _), (by decide : 0 + 3 ≤ _)⟩)
  dsimp only [Pt.U, Pt.locs, Pt.cells, Pt.slots] at X2 l2 y2 z2 st2 hQ2
  subst l2 y2 z2
  obtain ⟨b2_0, k2_0, rfl, N2q, K2, sf2_0, o2_0⟩ := hQ2
  have ne_a1_b2_0 : a1 ≠ b2_0 := Nat.ne_of_lt (Nat.lt_of_lt_of_le H0.lt sf2_0)
  have g_b2_0 : n0 ≤ b2_0 := Nat.le_trans Z0 sf2_0
  have sz_b2_0 : h0.size ≤ b2_0 := Nat.le_trans (Keep.refl h0 []).1 sf2_0
  have f3_0 := Nat.le_trans Z0 K2.1
  have f3_1 := H0.keep K2 nin0
  have f3_2 := (Keep.refl h0 []).trans K2 all0
  have N2 := Fr.app N0 N2q
  refine Wp.back (U' := (T2.setTop (mkF m 16 #[.val (.ref a1), .val (.int 0), .val (.int 3)] [(.ref b2_0)]))) st2 ?_
  obtain ⟨fs, hr, hrun, hended, hW, hsame⟩ := X2.leave (v := (some (.ref b2_0))) (fun h => by rw [hret] at h; cases h)
  refine Wp.done (retOut X2 hx hret rfl (Or.inr (Or.inr (Or.inr (Or.inr ⟨rfl, rfl, rfl⟩)))) (hb hby d27_16) hr) hrun hended ⟨_, _, rfl, ?_, ⟨_, rfl⟩, hW, hsame.mono (by decide) (by decide)⟩
  show Q_co4 Z a1 k1 v0 v1 v2 v3 h0 n0 _ T2.heap _
  exact ⟨b2_0, k2_0, rfl, N2, f3_2, sz_b2_0, o2_0⟩
def Q_nw4 (Z : State) (a1 : Addr) (k1 : ClassId) (v0 : Int32) (v1 : Int32) (v2 : Int32) (v3 : Int32) (h0 : Heap) (n0 : Nat) (v : Option Value) (h : Heap) (L : List Loc) : Prop := ∃ fr0 : Addr, ∃ fr1 : Addr, ∃ fk0 : ClassId, v = some (.ref fr0) ∧ Fr n0 L ∧ Keep h0 h [] ∧ h0.size ≤ fr0 ∧ h0.size ≤ fr1 ∧ Exa Z h fr0 "java/lang/String" ∧ Fld Z h fr0 "java/lang/String" "value" "[B" (.ref fr1) ∧ Fld Z h fr0 "java/lang/String" "coder" "B" (.int 0) ∧ Arv Z h fr1 fk0 .byte (3 : Int32) [(.int v0), (.int v1), (.int v2)] (.int 0)
set_option maxRecDepth 65536 in
set_option maxHeartbeats 40000000 in
theorem rm_nw4 (l : Launch) (Z : State) (a0 : Array Value) (hw : ∀ d ∈ tables_1, d.before a0 Z = true) (ws : List Jvm.Cond) (a1 : Addr) (k1 : ClassId) (v0 : Int32) (v1 : Int32) (v2 : Int32) (v3 : Int32) (h0 : Heap) (n0 : Nat) (Z0 : n0 ≤ h0.size) (H0 : Arv Z h0 a1 k1 .byte (4 : Int32) [(.int v0), (.int v1), (.int v2), (.int v3)] (.int 0)) :
    Met l Z Y19 jdk_43_method_47_code 3 (some (.object "java/lang/String")) ws ({ frames := 3, cells := 2, slots := 7, locals := 50 } : Room) #[(.ref a1), (.int 0), (.int 3)] h0 (Q_nw4 Z a1 k1 v0 v1 v2 v3 h0 n0) := by
  refine own_body (plainFor_of_name pn26) ?_
  intro p e s m below meth c s₁ hx hby hret hlk hml hZ hown hnm X0 e0
  have N0 := Fr.nil n0
  refine Wp.back (U' := (s₁.setTop (mkF m 0 #[.val (.ref a1), .val (.int 0), .val (.int 3)] []))) (fun t k => castTop (ef26_RII m a1 (0 : Int32) (3 : Int32)) k) ?_
  refine Wp.back (U' := (s₁.setTop (mkF m 7 #[.val (.ref a1), .val (.int 0), .val (.int 3)] []))) (fun t k => XS.iloadN X0.here hx rfl (hb hby d26_0) rfl (XS.ifYes X0.here hx rfl (pc0 := 1) (pc' := 7) rfl (hb hby d26_1) rfl ((if0 _ _).trans (feq (by decide)).2) (by decide) (by decide) k)) ?_
  obtain ⟨T1, h1, X1, e1, E1, A1, D1, -, st1⟩ := newO X0 hx hZ hown (ow hw 119 rfl) (ow hw 10 rfl) (ow hw 11 rfl) e0 (g := (mkF m 7 #[.val (.ref a1), .val (.int 0), .val (.int 3)] [])) rfl (hb hby d26_7) (by decide) (by decide)
  obtain ⟨b1, g1⟩ : ∃ z, z = h0.size := ⟨_, rfl⟩
  rw [← g1] at A1 D1 st1
  have ne_a1_b1 : a1 ≠ b1 := Nat.ne_of_lt (Nat.lt_of_lt_of_le H0.lt (Nat.le_of_eq g1.symm))
  have g_b1 : n0 ≤ b1 := Nat.le_trans Z0 (Nat.le_of_eq g1.symm)
  have sz_b1 : h0.size ≤ b1 := Nat.le_trans (Keep.refl h0 []).1 (Nat.le_of_eq g1.symm)
  have f2_0 := Nat.le_trans Z0 E1.1
  have f2_1 := H0.ext E1
  have f2_2 := (Keep.refl h0 []).ext E1
  have F1_35 : Fld Z h1 b1 "java/lang/String" "coder" "B" (.int 0) := D1 (Or.inr (ow hw 35 rfl)) (ty := .byte) (by decide)
  have F1_37 : Fld Z h1 b1 "java/lang/String" "value" "[B" .null := D1 (Or.inr (ow hw 37 rfl)) (ty := (.array .byte)) (by decide)
  refine Wp.back (U' := (T1.setTop (mkF m 10 #[.val (.ref a1), .val (.int 0), .val (.int 3)] [(.ref b1)]))) st1 ?_
  refine Wp.back (U' := (T1.setTop (mkF m 16 #[.val (.ref a1), .val (.int 0), .val (.int 3)] [(.int 3), (.int 0), (.ref a1), (.ref b1), (.ref b1)]))) (fun t k => XS.dup X1.here hx rfl (hb hby d26_10) rfl rfl (XS.aloadN X1.here hx rfl (hb hby d26_11) rfl rfl (XS.iloadN X1.here hx rfl (hb hby d26_12) rfl (XS.iloadN X1.here hx rfl (hb hby d26_13) rfl (XS.iloadN X1.here hx rfl (hb hby d26_14) rfl (XS.iadd X1.here hx rfl (hb hby d26_15) rfl k)))))) ?_
  obtain ⟨_, _, ⟨T3, L3, k3, n3⟩, -, X3, ⟨Lc3, hQ3, l3, y3, z3⟩, st3⟩ := Jvm.LawKit.callS X1 hx (y := Y18) hown (mvT hZ (ow hw 120 rfl)) (mvT hZ (ow hw 121 rfl)) (mvT hZ (ow hw 122 rfl)) (mvT hZ (ow hw 123 rfl)) (by decide) (backOf (W := 2) (rm_co4 l Z a0 hw [] a1 k1 v0 v1 v2 v3 h1 n0 f2_0 f2_1) hZ (ow hw 123 rfl) (ow hw 122 rfl) (by decide) (by decide)) (g := (mkF m 16 #[.val (.ref a1), .val (.int 0), .val (.int 3)] [(.int 3), (.int 0), (.ref a1), (.ref b1), (.ref b1)])) rfl (by rw [hml]; rfl) (argsL := [(.ref a1), (.int 0), (.int 3)]) (rest := [(.ref b1), (.ref b1)]) (lenOf pd_10 rfl) rfl (Nat.le_of_eq rfl) (hb hby d26_16) (fun _ _ => ⟨rfl, e1, (by decide : 1 + 1 ≤ _), (by decide : 4 + 3 ≤ _)⟩)
  dsimp only [Pt.U, Pt.locs, Pt.cells, Pt.slots] at X3 l3 y3 z3 st3 hQ3
  subst l3 y3 z3
  obtain ⟨b3_0, k3_0, rfl, N3q, K3, sf3_0, o3_0⟩ := hQ3
  have ne_a1_b3_0 : a1 ≠ b3_0 := Nat.ne_of_lt (Nat.lt_of_lt_of_le f2_1.lt sf3_0)
  have ne_b1_b3_0 : b1 ≠ b3_0 := Nat.ne_of_lt (Nat.lt_of_lt_of_le A1.lt sf3_0)
  have g_b3_0 : n0 ≤ b3_0 := Nat.le_trans f2_0 sf3_0
  have sz_b3_0 : h0.size ≤ b3_0 := Nat.le_trans f2_2.1 sf3_0
  have f4_0 := Nat.le_trans f2_0 K3.1
  have f4_1 := f2_1.keep K3 nin0
  have f4_2 := f2_2.trans K3 all0
  have f4_3 := A1.keep K3
  have f4_4 := F1_35.keep K3 nin0
  have f4_5 := F1_37.keep K3 nin0
  have N3 := Fr.app N0 N3q
  refine Wp.back (U' := (T3.setTop (mkF m 19 #[.val (.ref a1), .val (.int 0), .val (.int 3)] [(.ref b3_0), (.ref b1), (.ref b1)]))) st3 ?_
  refine Wp.back (U' := (T3.setTop (mkF m 20 #[.val (.ref a1), .val (.int 0), .val (.int 3)] [(.int 0), (.ref b3_0), (.ref b1), (.ref b1)]))) (fun t k => XT.iconstV X3.here hx rfl 0 (hb hby d26_19) (by decide) k) ?_
  obtain ⟨_, _, ⟨T5, L5, k5, n5⟩, -, X5, ⟨Lc5, hQ5, l5, y5, z5⟩, st5⟩ := X3.specialBack hx (y := Y15) rfl hown (mvT hZ (ow hw 138 rfl)) (mvT hZ (ow hw 139 rfl)) (mvT hZ (ow hw 140 rfl)) (by decide) (backOf (W := 1) (rm_sib l Z a0 hw [] b1 b3_0  T3.heap n0 f4_0 f4_3 f4_5 f4_4 g_b1) hZ (ow hw 140 rfl) (ow hw 11 rfl) (by decide) (by decide)) (g := (mkF m 20 #[.val (.ref a1), .val (.int 0), .val (.int 3)] [(.int 0), (.ref b3_0), (.ref b1), (.ref b1)])) rfl (by rw [hml]; rfl) (Steps.refl _) (a := b1) (argsL := [(.ref b3_0), (.int 0)]) (rest := [(.ref b1)]) (lenOf pd_11 rfl) rfl (Nat.le_of_eq rfl) (hb hby d26_20) (fun _ _ => ⟨rfl, rfl, (by decide : 2 + 0 ≤ _), (by decide : 7 + 0 ≤ _)⟩)
  dsimp only [Pt.U, Pt.locs, Pt.cells, Pt.slots] at X5 l5 y5 z5 st5 hQ5
  subst l5 y5 z5
  obtain ⟨rfl, N5q, K5, o5_0, o5_1, o5_2⟩ := hQ5
  have f6_0 := Nat.le_trans f4_0 K5.1
  have f6_1 := f4_1.keep K5 (ninS ne_a1_b1 nin0)
  have f6_2 := f4_2.trans K5 (allS (Or.inr sz_b1) all0)
  have f6_3 := f4_3.keep K5
  have f6_6 := o3_0.keep K5 (ninS (Ne.symm ne_b1_b3_0) nin0)
  have N5 := Fr.app N3 N5q
  refine Wp.back (U' := (T5.setTop (mkF m 23 #[.val (.ref a1), .val (.int 0), .val (.int 3)] [(.ref b1)]))) (fun t k => st5.trans k) ?_
  obtain ⟨fs, hr, hrun, hended, hW, hsame⟩ := X5.leave (v := (some (.ref b1))) (fun h => by rw [hret] at h; cases h)
  refine Wp.done (retOut X5 hx hret rfl (Or.inr (Or.inr (Or.inr (Or.inr ⟨rfl, rfl, rfl⟩)))) (hb hby d26_23) hr) hrun hended ⟨_, _, rfl, ?_, ⟨_, rfl⟩, hW, hsame.mono (by decide) (by decide)⟩
  show Q_nw4 Z a1 k1 v0 v1 v2 v3 h0 n0 _ T5.heap _
  exact ⟨b1, b3_0, k3_0, rfl, N5, f6_2, sz_b1, sz_b3_0, o5_0, o5_1, o5_2, f6_6⟩
def Q_ss4 (Z : State) (ar : Addr) (a1 : Addr) (cs : Int32) (fm : Value) (k1 : ClassId) (v0 : Int32) (v1 : Int32) (v2 : Int32) (v3 : Int32) (h0 : Heap) (n0 : Nat) (v : Option Value) (h : Heap) (L : List Loc) : Prop := ∃ fr0 : Addr, ∃ fr1 : Addr, ∃ fk0 : ClassId, v = some (.ref fr0) ∧ Fr n0 L ∧ Keep h0 h [] ∧ h0.size ≤ fr0 ∧ h0.size ≤ fr1 ∧ Exa Z h fr0 "java/lang/String" ∧ Fld Z h fr0 "java/lang/String" "value" "[B" (.ref fr1) ∧ Fld Z h fr0 "java/lang/String" "coder" "B" (.int 0) ∧ Arv Z h fr1 fk0 .byte (3 : Int32) [(.int v0), (.int v1), (.int v2)] (.int 0)
set_option maxRecDepth 65536 in
set_option maxHeartbeats 40000000 in
theorem rm_ss4 (l : Launch) (Z : State) (a0 : Array Value) (hw : ∀ d ∈ tables_1, d.before a0 Z = true) (ws : List Jvm.Cond) (ar : Addr) (a1 : Addr) (cs : Int32) (fm : Value) (k1 : ClassId) (v0 : Int32) (v1 : Int32) (v2 : Int32) (v3 : Int32) (h0 : Heap) (n0 : Nat) (Z0 : n0 ≤ h0.size) (H0 : Exa Z h0 ar "java/lang/String") (H1 : Fld Z h0 ar "java/lang/String" "value" "[B" (.ref a1)) (H2 : Fld Z h0 ar "java/lang/String" "coder" "B" (.int 0)) (H3 : Arv Z h0 a1 k1 .byte (4 : Int32) [(.int v0), (.int v1), (.int v2), (.int v3)] (.int 0)) (H4 : Sta Z h0 "java/lang/String" "COMPACT_STRINGS" "Z" (.int cs)) (H5 : Sta Z h0 "jdk/internal/util/Preconditions" "SIOOBE_FORMATTER" "Ljava/util/function/BiFunction;" fm) (isr_fm : fm.isRef = true) (hcs : ¬ cs = (0 : Int32)) :
    Met l Z Y20 jdk_42_method_92_code 5 (some (.object "java/lang/String")) ws ({ frames := 4, cells := 2, slots := 7, locals := 64 } : Room) #[(.ref ar), (.int 0), (.int 3)] h0 (Q_ss4 Z ar a1 cs fm k1 v0 v1 v2 v3 h0 n0) := by
  refine own_body (plainFor_of_name pn21) ?_
  intro p e s m below meth c s₁ hx hby hret hlk hml hZ hown hnm X0 e0
  have N0 := Fr.nil n0
  refine Wp.back (U' := (s₁.setTop (mkF m 0 #[.val (.ref ar), .val (.int 0), .val (.int 3), .unset, .unset] []))) (fun t k => castTop (ef21_RII m ar (0 : Int32) (3 : Int32)) k) ?_
  refine Wp.back (U' := (s₁.setTop (mkF m 1 #[.val (.ref ar), .val (.int 0), .val (.int 3), .unset, .unset] [(.ref ar)]))) (fun t k => XS.aloadN X0.here hx rfl (hb hby d21_0) rfl rfl k) ?_
  obtain ⟨cq1, kq1, q1a, q1b, q1c⟩ := isOf hZ e0 H0
  obtain ⟨_, _, ⟨T1, L1, k1, n1⟩, -, X1, ⟨Lc1, hQ1, l1, y1, z1⟩, st1⟩ := X0.virtualBack hx (y := Y9) (z := Y9) hown (mvT hZ (ow hw 51 rfl)) (mvT hZ (ow hw 52 rfl)) (notFace_of_selects (args := #[]) (mvT hZ (ow hw 54 rfl))) (mvT hZ (ow hw 54 rfl)) (mvT hZ (ow hw 53 rfl)) (by decide) (backOf (W := 0) (rm_len l Z a0 hw [] ar a1 k1 (4 : Int32) [(.int v0), (.int v1), (.int v2), (.int v3)] (.int 0) cs h0 n0 Z0 H0 H1 H2 H3 H4 hcs) hZ (ow hw 55 rfl) (ow hw 11 rfl) (by decide) (by decide)) q1a q1c (g := (mkF m 1 #[.val (.ref ar), .val (.int 0), .val (.int 3), .unset, .unset] [(.ref ar)])) rfl (by rw [hml]; rfl) (Steps.refl _) (argsL := []) (rest := []) (lenOf pd_6 rfl) rfl (Nat.le_of_eq rfl) (hb hby d21_1) (fun _ _ => ⟨rfl, e0, (by decide : 0 + 0 ≤ _), (by decide : 0 + 0 ≤ _)⟩)
  dsimp only [Pt.U, Pt.locs, Pt.cells, Pt.slots] at X1 l1 y1 z1 st1 hQ1
  subst l1 y1 z1
  obtain ⟨rfl, N1q, K1⟩ := hQ1
  have f2_0 := Nat.le_trans Z0 K1.1
  have f2_1 := H0.keep K1
  have f2_2 := H1.keep K1 nin0
  have f2_3 := H2.keep K1 nin0
  have f2_4 := H3.keep K1 nin0
  have f2_5 := Sta_keep0 H4 K1
  have f2_6 := Sta_keep0 H5 K1
  have f2_7 := (Keep.refl h0 []).trans K1 all0
  have N1 := Fr.app N0 N1q
  refine Wp.back (U' := (T1.setTop (mkF m 4 #[.val (.ref ar), .val (.int 0), .val (.int 3), .unset, .unset] [(.int 4)]))) (fun t k => st1.trans k) ?_
  refine Wp.back (U' := (T1.setTop (mkF m 8 #[.val (.ref ar), .val (.int 0), .val (.int 3), .val (.int 4), .unset] [(.int 4), (.int 3), (.int 0)]))) (fun t k => XS.istoreN X1.here hx rfl (hb hby d21_4) rfl (l' := #[.val (.ref ar), .val (.int 0), .val (.int 3), .val (.int 4), .unset]) rfl (XS.iloadN X1.here hx rfl (hb hby d21_5) rfl (XS.iloadN X1.here hx rfl (hb hby d21_6) rfl (XS.iloadN X1.here hx rfl (hb hby d21_7) rfl k)))) ?_
  obtain ⟨_, _, ⟨T3, L3, k3, n3⟩, -, X3, ⟨Lc3, hQ3, l3, y3, z3⟩, st3⟩ := Jvm.LawKit.callS X1 hx (y := Y5) hown (mvT hZ (ow hw 101 rfl)) (mvT hZ (ow hw 102 rfl)) (mvT hZ (ow hw 11 rfl)) (mvT hZ (ow hw 103 rfl)) (by decide) (backOf (W := 0) (rm_cbe l Z a0 hw [] (0 : Int32) (3 : Int32) (4 : Int32) fm T1.heap n0 f2_0 f2_6 isr_fm (by decide) (by decide) (by decide)) hZ (ow hw 103 rfl) (ow hw 11 rfl) (by decide) (by decide)) (g := (mkF m 8 #[.val (.ref ar), .val (.int 0), .val (.int 3), .val (.int 4), .unset] [(.int 4), (.int 3), (.int 0)])) rfl (by rw [hml]; rfl) (argsL := [(.int 0), (.int 3), (.int 4)]) (rest := []) (lenOf pd_12 rfl) rfl (Nat.le_of_eq rfl) (hb hby d21_8) (fun _ _ => ⟨rfl, rfl, (by decide : 0 + 0 ≤ _), (by decide : 0 + 0 ≤ _)⟩)
  dsimp only [Pt.U, Pt.locs, Pt.cells, Pt.slots] at X3 l3 y3 z3 st3 hQ3
  subst l3 y3 z3
  obtain ⟨rfl, N3q, K3⟩ := hQ3
  have f4_0 := Nat.le_trans f2_0 K3.1
  have f4_1 := f2_1.keep K3
  have f4_2 := f2_2.keep K3 nin0
  have f4_3 := f2_3.keep K3 nin0
  have f4_4 := f2_4.keep K3 nin0
  have f4_5 := Sta_keep0 f2_5 K3
  have f4_6 := Sta_keep0 f2_6 K3
  have f4_7 := f2_7.trans K3 all0
  have N3 := Fr.app N1 N3q
  refine Wp.back (U' := (T3.setTop (mkF m 11 #[.val (.ref ar), .val (.int 0), .val (.int 3), .val (.int 4), .unset] []))) st3 ?_
  refine Wp.back (U' := (T3.setTop (mkF m 28 #[.val (.ref ar), .val (.int 0), .val (.int 3), .val (.int 4), .val (.int 3)] [(.ref ar)]))) (fun t k => XS.iloadN X3.here hx rfl (hb hby d21_11) rfl (XS.ifNo X3.here hx rfl (hb hby d21_12) rfl ((if0 _ _).trans (teq (by decide)).2) (XS.iloadN X3.here hx rfl (hb hby d21_15) rfl (XS.iloadN X3.here hx rfl (hb hby d21_16) rfl (XS.icmpYes X3.here hx rfl (pc0 := 17) (pc' := 22) rfl (hb hby d21_17) rfl (feq (by decide)).2 (by decide) (by decide) (XS.iloadN X3.here hx rfl (hb hby d21_22) rfl (XS.iloadN X3.here hx rfl (hb hby d21_23) rfl (XS.isub X3.here hx rfl (hb hby d21_24) rfl (XS.istore X3.here hx rfl (hb hby d21_25) rfl (l' := #[.val (.ref ar), .val (.int 0), .val (.int 3), .val (.int 4), .val (.int 3)]) rfl (XS.aloadN X3.here hx rfl (hb hby d21_27) rfl rfl k)))))))))) ?_
  obtain ⟨cq5, kq5, q5a, q5b, q5c⟩ := isOf hZ rfl f4_1
  obtain ⟨_, _, ⟨T5, L5, k5, n5⟩, -, X5, ⟨Lc5, hQ5, l5, y5, z5⟩, st5⟩ := X3.virtualBack hx (y := Y8) (z := Y8) hown (mvT hZ (ow hw 76 rfl)) (mvT hZ (ow hw 77 rfl)) (notFace_of_selects (args := #[]) (mvT hZ (ow hw 79 rfl))) (mvT hZ (ow hw 79 rfl)) (mvT hZ (ow hw 78 rfl)) (by decide) (backOf (W := 0) (rm_isl l Z a0 hw [] ar cs T3.heap n0 f4_0 f4_3 f4_5 hcs) hZ (ow hw 80 rfl) (ow hw 11 rfl) (by decide) (by decide)) q5a q5c (g := (mkF m 28 #[.val (.ref ar), .val (.int 0), .val (.int 3), .val (.int 4), .val (.int 3)] [(.ref ar)])) rfl (by rw [hml]; rfl) (Steps.refl _) (argsL := []) (rest := []) (lenOf pd_4 rfl) rfl (Nat.le_of_eq rfl) (hb hby d21_28) (fun _ _ => ⟨rfl, rfl, (by decide : 0 + 0 ≤ _), (by decide : 0 + 0 ≤ _)⟩)
  dsimp only [Pt.U, Pt.locs, Pt.cells, Pt.slots] at X5 l5 y5 z5 st5 hQ5
  subst l5 y5 z5
  obtain ⟨rfl, N5q, K5⟩ := hQ5
  have f6_0 := Nat.le_trans f4_0 K5.1
  have f6_1 := f4_1.keep K5
  have f6_2 := f4_2.keep K5 nin0
  have f6_3 := f4_3.keep K5 nin0
  have f6_4 := f4_4.keep K5 nin0
  have f6_5 := Sta_keep0 f4_5 K5
  have f6_6 := Sta_keep0 f4_6 K5
  have f6_7 := f4_7.trans K5 all0
  have N5 := Fr.app N3 N5q
  refine Wp.back (U' := (T5.setTop (mkF m 31 #[.val (.ref ar), .val (.int 0), .val (.int 3), .val (.int 4), .val (.int 3)] [(.int 1)]))) (fun t k => st5.trans k) ?_
  refine Wp.back (U' := (T5.setTop (mkF m 35 #[.val (.ref ar), .val (.int 0), .val (.int 3), .val (.int 4), .val (.int 3)] [(.ref ar)]))) (fun t k => XS.ifNo X5.here hx rfl (hb hby d21_31) rfl ((if0 _ _).trans (feq (by decide)).1) (XS.aloadN X5.here hx rfl (hb hby d21_34) rfl rfl k)) ?_
  obtain ⟨T7, X7, e7, st7⟩ := getF X5 hx hZ hown (host := "") (Or.inl (ow hw 36 rfl)) Via.refl rfl f6_2 (g := (mkF m 35 #[.val (.ref ar), .val (.int 0), .val (.int 3), .val (.int 4), .val (.int 3)] [(.ref ar)])) rfl rfl (hb hby d21_35)
  refine Wp.back (U' := (T7.setTop (mkF m 38 #[.val (.ref ar), .val (.int 0), .val (.int 3), .val (.int 4), .val (.int 3)] [(.ref a1)]))) st7 ?_
  refine Wp.back (U' := (T7.setTop (mkF m 41 #[.val (.ref ar), .val (.int 0), .val (.int 3), .val (.int 4), .val (.int 3)] [(.int 3), (.int 0), (.ref a1)]))) (fun t k => XS.iloadN X7.here hx rfl (hb hby d21_38) rfl (XS.iload X7.here hx rfl (hb hby d21_39) rfl k)) ?_
  obtain ⟨_, _, ⟨T8, L8, k8, n8⟩, -, X8, ⟨Lc8, hQ8, l8, y8, z8⟩, st8⟩ := Jvm.LawKit.callS X7 hx (y := Y19) hown (mvT hZ (ow hw 116 rfl)) (mvT hZ (ow hw 117 rfl)) (mvT hZ (ow hw 83 rfl)) (mvT hZ (ow hw 118 rfl)) (by decide) (backOf (W := 0) (rm_nw4 l Z a0 hw [] a1 k1 v0 v1 v2 v3 T5.heap n0 f6_0 f6_4) hZ (ow hw 118 rfl) (ow hw 83 rfl) (by decide) (by decide)) (g := (mkF m 41 #[.val (.ref ar), .val (.int 0), .val (.int 3), .val (.int 4), .val (.int 3)] [(.int 3), (.int 0), (.ref a1)])) rfl (by rw [hml]; rfl) (argsL := [(.ref a1), (.int 0), (.int 3)]) (rest := []) (lenOf pd_13 rfl) rfl (Nat.le_of_eq rfl) (hb hby d21_41) (fun _ _ => ⟨rfl, e7, (by decide : 0 + 2 ≤ _), (by decide : 0 + 7 ≤ _)⟩)
  dsimp only [Pt.U, Pt.locs, Pt.cells, Pt.slots] at X8 l8 y8 z8 st8 hQ8
  subst l8 y8 z8
  obtain ⟨b8_0, b8_1, k8_0, rfl, N8q, K8, sf8_0, sf8_1, o8_0, o8_1, o8_2, o8_3⟩ := hQ8
  have ne_ar_b8_0 : ar ≠ b8_0 := Nat.ne_of_lt (Nat.lt_of_lt_of_le f6_1.lt sf8_0)
  have ne_a1_b8_0 : a1 ≠ b8_0 := Nat.ne_of_lt (Nat.lt_of_lt_of_le f6_4.lt sf8_0)
  have g_b8_0 : n0 ≤ b8_0 := Nat.le_trans f6_0 sf8_0
  have sz_b8_0 : h0.size ≤ b8_0 := Nat.le_trans f6_7.1 sf8_0
  have ne_ar_b8_1 : ar ≠ b8_1 := Nat.ne_of_lt (Nat.lt_of_lt_of_le f6_1.lt sf8_1)
  have ne_a1_b8_1 : a1 ≠ b8_1 := Nat.ne_of_lt (Nat.lt_of_lt_of_le f6_4.lt sf8_1)
  have g_b8_1 : n0 ≤ b8_1 := Nat.le_trans f6_0 sf8_1
  have sz_b8_1 : h0.size ≤ b8_1 := Nat.le_trans f6_7.1 sf8_1
  have f9_0 := Nat.le_trans f6_0 K8.1
  have f9_1 := f6_1.keep K8
  have f9_2 := f6_2.keep K8 nin0
  have f9_3 := f6_3.keep K8 nin0
  have f9_4 := f6_4.keep K8 nin0
  have f9_5 := Sta_keep0 f6_5 K8
  have f9_6 := Sta_keep0 f6_6 K8
  have f9_7 := f6_7.trans K8 all0
  have N8 := Fr.app N5 N8q
  refine Wp.back (U' := (T8.setTop (mkF m 44 #[.val (.ref ar), .val (.int 0), .val (.int 3), .val (.int 4), .val (.int 3)] [(.ref b8_0)]))) st8 ?_
  refine Wp.back (U' := (T8.setTop (mkF m 57 #[.val (.ref ar), .val (.int 0), .val (.int 3), .val (.int 4), .val (.int 3)] [(.ref b8_0)]))) (fun t k => XS.goto X8.here hx rfl (pc0 := 44) (pc' := 57) rfl (hb hby d21_44) (by decide) (by decide) k) ?_
  obtain ⟨fs, hr, hrun, hended, hW, hsame⟩ := X8.leave (v := (some (.ref b8_0))) (fun h => by rw [hret] at h; cases h)
  refine Wp.done (retOut X8 hx hret rfl (Or.inr (Or.inr (Or.inr (Or.inr ⟨rfl, rfl, rfl⟩)))) (hb hby d21_57) hr) hrun hended ⟨_, _, rfl, ?_, ⟨_, rfl⟩, hW, hsame.mono (by decide) (by decide)⟩
  show Q_ss4 Z ar a1 cs fm k1 v0 v1 v2 v3 h0 n0 _ T8.heap _
  exact ⟨b8_0, b8_1, k8_0, rfl, N8, f9_7, sz_b8_0, sz_b8_1, o8_0, o8_1, o8_2, o8_3⟩
def Q_min5 (Z : State)   (h0 : Heap) (n0 : Nat) (v : Option Value) (h : Heap) (L : List Loc) : Prop := v = some (.int 4) ∧ Fr n0 L ∧ Keep h0 h []
set_option maxRecDepth 65536 in
set_option maxHeartbeats 40000000 in
theorem rm_min5 (l : Launch) (Z : State) (a0 : Array Value) (hw : ∀ d ∈ tables_1, d.before a0 Z = true) (ws : List Jvm.Cond)   (h0 : Heap) (n0 : Nat) (Z0 : n0 ≤ h0.size)  :
    Met l Z Y16 jdk_29_method_69_code 2 (some .int) ws ({ frames := 0, cells := 0, slots := 0, locals := 0 } : Room) #[(.int 5), (.int 4)] h0 (Q_min5 Z  h0 n0) := by
  refine own_body (Jvm.Free.JP.mathPlain rfl (by decide +kernel)) ?_
  intro p e s m below meth c s₁ hx hby hret hlk hml hZ hown hnm X0 e0
  have N0 := Fr.nil n0
  refine Wp.back (U' := (s₁.setTop (mkF m 0 #[.val (.int 5), .val (.int 4)] []))) (fun t k => castTop (ef30_II m (5 : Int32) (4 : Int32)) k) ?_
  refine Wp.back (U' := (s₁.setTop (mkF m 10 #[.val (.int 5), .val (.int 4)] [(.int 4)]))) (fun t k => XS.iloadN X0.here hx rfl (hb hby d30_0) rfl (XS.iloadN X0.here hx rfl (hb hby d30_1) rfl (XS.icmpYes X0.here hx rfl (pc0 := 2) (pc' := 9) rfl (hb hby d30_2) rfl (tlt (by decide)).2.2.1 (by decide) (by decide) (XS.iloadN X0.here hx rfl (hb hby d30_9) rfl k)))) ?_
  obtain ⟨fs, hr, hrun, hended, hW, hsame⟩ := X0.leave (v := (some (.int 4))) (fun h => by rw [hret] at h; cases h)
  refine Wp.done (retI X0 hx hret (hb hby d30_10) hr) hrun hended ⟨_, _, rfl, ?_, ⟨_, rfl⟩, hW, hsame.mono (by decide) (by decide)⟩
  show Q_min5 Z  h0 n0 _ s₁.heap _
  rw [e0]
  exact ⟨rfl, N0, (Keep.refl h0 [])⟩
def Q_cb5 (Z : State) (a1 : Addr) (k1 : ClassId) (v0 : Int32) (v1 : Int32) (v2 : Int32) (v3 : Int32) (v4 : Int32) (h0 : Heap) (n0 : Nat) (v : Option Value) (h : Heap) (L : List Loc) : Prop := ∃ fr0 : Addr, ∃ fk0 : ClassId, v = some (.ref fr0) ∧ Fr n0 L ∧ Keep h0 h [] ∧ h0.size ≤ fr0 ∧ Arv Z h fr0 fk0 .byte (4 : Int32) [(.int v0), (.int v1), (.int v2), (.int v3)] (.int 0)
set_option maxRecDepth 65536 in
set_option maxHeartbeats 40000000 in
theorem rm_cb5 (l : Launch) (Z : State) (a0 : Array Value) (hw : ∀ d ∈ tables_1, d.before a0 Z = true) (ws : List Jvm.Cond) (a1 : Addr) (k1 : ClassId) (v0 : Int32) (v1 : Int32) (v2 : Int32) (v3 : Int32) (v4 : Int32) (h0 : Heap) (n0 : Nat) (Z0 : n0 ≤ h0.size) (H0 : Arv Z h0 a1 k1 .byte (5 : Int32) [(.int v0), (.int v1), (.int v2), (.int v3), (.int v4)] (.int 0)) :
    Met l Z Y17 jdk_65_method_133_code 5 (some (.array .byte)) ws ({ frames := 1, cells := 1, slots := 4, locals := 18 } : Room) #[(.ref a1), (.int 0), (.int 4)] h0 (Q_cb5 Z a1 k1 v0 v1 v2 v3 v4 h0 n0) := by
  refine own_body (plainFor_of_name pn28) ?_
  intro p e s m below meth c s₁ hx hby hret hlk hml hZ hown hnm X0 e0
  have N0 := Fr.nil n0
  refine Wp.back (U' := (s₁.setTop (mkF m 0 #[.val (.ref a1), .val (.int 0), .val (.int 4), .unset, .unset] []))) (fun t k => castTop (ef28_RII m a1 (0 : Int32) (4 : Int32)) k) ?_
  refine Wp.back (U' := (s₁.setTop (mkF m 2 #[.val (.ref a1), .val (.int 0), .val (.int 4), .unset, .unset] [(.int 4), (.int 0)]))) (fun t k => XS.iloadN X0.here hx rfl (hb hby d28_0) rfl (XS.iloadN X0.here hx rfl (hb hby d28_1) rfl k)) ?_
  obtain ⟨_, _, ⟨T1, L1, k1, n1⟩, -, X1, ⟨Lc1, hQ1, l1, y1, z1⟩, st1⟩ := Jvm.LawKit.callS X0 hx (y := Y6) hown (mvT hZ (ow hw 127 rfl)) (mvT hZ (ow hw 128 rfl)) (mvT hZ (ow hw 122 rfl)) (mvT hZ (ow hw 129 rfl)) (by decide) (backOf (W := 0) (rm_cl l Z a0 hw [] (0 : Int32) (4 : Int32)  h0 n0 Z0 (by decide)) hZ (ow hw 129 rfl) (ow hw 122 rfl) (by decide) (by decide)) (g := (mkF m 2 #[.val (.ref a1), .val (.int 0), .val (.int 4), .unset, .unset] [(.int 4), (.int 0)])) rfl (by rw [hml]; rfl) (argsL := [(.int 0), (.int 4)]) (rest := []) (lenOf pd_3 rfl) rfl (Nat.le_of_eq rfl) (hb hby d28_2) (fun _ _ => ⟨rfl, e0, (by decide : 0 + 0 ≤ _), (by decide : 0 + 0 ≤ _)⟩)
  dsimp only [Pt.U, Pt.locs, Pt.cells, Pt.slots] at X1 l1 y1 z1 st1 hQ1
  subst l1 y1 z1
  obtain ⟨rfl, N1q, K1⟩ := hQ1
  have f2_0 := Nat.le_trans Z0 K1.1
  have f2_1 := H0.keep K1 nin0
  have f2_2 := (Keep.refl h0 []).trans K1 all0
  have N1 := Fr.app N0 N1q
  refine Wp.back (U' := (T1.setTop (mkF m 5 #[.val (.ref a1), .val (.int 0), .val (.int 4), .unset, .unset] []))) st1 ?_
  refine Wp.back (U' := (T1.setTop (mkF m 10 #[.val (.ref a1), .val (.int 0), .val (.int 4), .val (.int 4), .unset] [(.int 4)]))) (fun t k => XS.iloadN X1.here hx rfl (hb hby d28_5) rfl (XS.iloadN X1.here hx rfl (hb hby d28_6) rfl (XS.isub X1.here hx rfl (hb hby d28_7) rfl (XS.istoreN X1.here hx rfl (hb hby d28_8) rfl (l' := #[.val (.ref a1), .val (.int 0), .val (.int 4), .val (.int 4), .unset]) rfl (XS.iloadN X1.here hx rfl (hb hby d28_9) rfl k))))) ?_
  obtain ⟨T3, h3, k3, X3, e3, E3, A3, st3⟩ := newP X1 hx hZ (ow hw 27 rfl) rfl (g := (mkF m 10 #[.val (.ref a1), .val (.int 0), .val (.int 4), .val (.int 4), .unset] [(.int 4)])) rfl (hb hby d28_10) rfl (by decide) (cap := 4) (by decide) (by decide) (by decide) (by decide)
  obtain ⟨b3, g3⟩ : ∃ z, z = T1.heap.size := ⟨_, rfl⟩
  rw [← g3] at A3 st3
  have ne_a1_b3 : a1 ≠ b3 := Nat.ne_of_lt (Nat.lt_of_lt_of_le f2_1.lt (Nat.le_of_eq g3.symm))
  have g_b3 : n0 ≤ b3 := Nat.le_trans f2_0 (Nat.le_of_eq g3.symm)
  have sz_b3 : h0.size ≤ b3 := Nat.le_trans f2_2.1 (Nat.le_of_eq g3.symm)
  have f4_0 := Nat.le_trans f2_0 E3.1
  have f4_1 := f2_1.ext E3
  have f4_2 := f2_2.ext E3
  have V3 : Arv Z h3 b3 k3 .byte (4 : Int32) [(.int 0), (.int 0), (.int 0), (.int 0)] (.int 0) := (Arv.new A3 (by decide)).pad (pad_rep [] (.int 0) 4)
  refine Wp.back (U' := (T3.setTop (mkF m 12 #[.val (.ref a1), .val (.int 0), .val (.int 4), .val (.int 4), .unset] [(.ref b3)]))) st3 ?_
  refine Wp.back (U' := (T3.setTop (mkF m 20 #[.val (.ref a1), .val (.int 0), .val (.int 4), .val (.int 4), .val (.ref b3)] [(.ref a1), (.int 0), (.ref b3), (.int 0), (.ref a1)]))) (fun t k => XS.astore X3.here hx rfl (hb hby d28_12) rfl rfl (l' := #[.val (.ref a1), .val (.int 0), .val (.int 4), .val (.int 4), .val (.ref b3)]) rfl (XS.aloadN X3.here hx rfl (hb hby d28_14) rfl rfl (XS.iloadN X3.here hx rfl (hb hby d28_15) rfl (XS.aload X3.here hx rfl (hb hby d28_16) rfl rfl (XT.iconstV X3.here hx rfl 0 (hb hby d28_18) (by decide) (XS.aloadN X3.here hx rfl (hb hby d28_19) rfl rfl k)))))) ?_
  have vq5 := f4_1
  obtain ⟨cl5, Ar5, -, qs5, qn5, -, -⟩ := vq5
  refine Wp.back (U' := (T3.setTop (mkF m 21 #[.val (.ref a1), .val (.int 0), .val (.int 4), .val (.int 4), .val (.ref b3)] [(.int 5), (.int 0), (.ref b3), (.int 0), (.ref a1)]))) (fun t k => X3.arraylength hx (by rw [e3]; exact Ar5.1) (State.isArrayOf_alike hZ.alike Ar5.2.1) (g := (mkF m 20 #[.val (.ref a1), .val (.int 0), .val (.int 4), .val (.int 4), .val (.ref b3)] [(.ref a1), (.int 0), (.ref b3), (.int 0), (.ref a1)])) rfl rfl (hb hby d28_20) t (by rw [len_of qs5 qn5]; exact k)) ?_
  refine Wp.back (U' := (T3.setTop (mkF m 24 #[.val (.ref a1), .val (.int 0), .val (.int 4), .val (.int 4), .val (.ref b3)] [(.int 4), (.int 5), (.int 0), (.ref b3), (.int 0), (.ref a1)]))) (fun t k => XS.iloadN X3.here hx rfl (hb hby d28_21) rfl (XS.isub X3.here hx rfl (hb hby d28_22) rfl (XS.iloadN X3.here hx rfl (hb hby d28_23) rfl k))) ?_
  obtain ⟨_, _, ⟨T6, L6, k6, n6⟩, -, X6, ⟨Lc6, hQ6, l6, y6, z6⟩, st6⟩ := Jvm.LawKit.callS X3 hx (y := Y16) hown (mvT hZ (ow hw 130 rfl)) (mvT hZ (ow hw 131 rfl)) (mvT hZ (ow hw 132 rfl)) (mvT hZ (ow hw 133 rfl)) (by decide) (backOf (W := 4) (rm_min5 l Z a0 hw []   h3 n0 f4_0 ) hZ (ow hw 133 rfl) (ow hw 132 rfl) (by decide) (by decide)) (g := (mkF m 24 #[.val (.ref a1), .val (.int 0), .val (.int 4), .val (.int 4), .val (.ref b3)] [(.int 4), (.int 5), (.int 0), (.ref b3), (.int 0), (.ref a1)])) rfl (by rw [hml]; rfl) (argsL := [(.int 5), (.int 4)]) (rest := [(.int 0), (.ref b3), (.int 0), (.ref a1)]) (lenOf pd_9 rfl) rfl (Nat.le_of_eq rfl) (hb hby d28_24) (fun _ _ => ⟨rfl, e3, (by decide : 1 + 0 ≤ _), (by decide : 4 + 0 ≤ _)⟩)
  dsimp only [Pt.U, Pt.locs, Pt.cells, Pt.slots] at X6 l6 y6 z6 st6 hQ6
  subst l6 y6 z6
  obtain ⟨rfl, N6q, K6⟩ := hQ6
  have f7_0 := Nat.le_trans f4_0 K6.1
  have f7_1 := f4_1.keep K6 nin0
  have f7_2 := f4_2.trans K6 all0
  have f7_3 := V3.keep K6 nin0
  have N6 := Fr.app N1 N6q
  refine Wp.back (U' := (T6.setTop (mkF m 27 #[.val (.ref a1), .val (.int 0), .val (.int 4), .val (.int 4), .val (.ref b3)] [(.int 4), (.int 0), (.ref b3), (.int 0), (.ref a1)]))) st6 ?_
  obtain ⟨T8, h8, L8, X8, e8, N8, K8, V8, st8⟩ := cpA X6 hx hZ hown (ow hw 134 rfl) (ow hw 137 rfl) (ow hw 135 rfl) (ow hw 136 rfl) rfl f7_1 f7_3 (Or.inl ⟨rfl, rfl⟩) (sp := (0 : Int32)) (dp := (0 : Int32)) (nn := (4 : Int32)) (us := [(.int v0), (.int v1), (.int v2), (.int v3)]) (by decide) (by decide) (by decide) (by decide) (by decide) rfl (by decide) N6 g_b3 (g := (mkF m 27 #[.val (.ref a1), .val (.int 0), .val (.int 4), .val (.int 4), .val (.ref b3)] [(.int 4), (.int 0), (.ref b3), (.int 0), (.ref a1)])) rfl (by rw [hml]; rfl) (rest := []) rfl (hb hby d28_27) (by decide) (W := 0) (Nat.le_of_eq rfl) (by decide)
  have f9_0 := Nat.le_trans f7_0 K8.1
  have f9_1 := f7_1.keep K8 (ninS ne_a1_b3 nin0)
  have f9_2 := f7_2.trans K8 (allS (Or.inr sz_b3) all0)
  have W8 : Arv Z h8 b3 k3 .byte (4 : Int32) [(.int v0), (.int v1), (.int v2), (.int v3)] (.int 0) := V8
  refine Wp.back (U' := (T8.setTop (mkF m 30 #[.val (.ref a1), .val (.int 0), .val (.int 4), .val (.int 4), .val (.ref b3)] []))) st8 ?_
  refine Wp.back (U' := (T8.setTop (mkF m 32 #[.val (.ref a1), .val (.int 0), .val (.int 4), .val (.int 4), .val (.ref b3)] [(.ref b3)]))) (fun t k => XS.aload X8.here hx rfl (hb hby d28_30) rfl rfl k) ?_
  obtain ⟨fs, hr, hrun, hended, hW, hsame⟩ := X8.leave (v := (some (.ref b3))) (fun h => by rw [hret] at h; cases h)
  refine Wp.done (retOut X8 hx hret rfl (Or.inr (Or.inr (Or.inr (Or.inr ⟨rfl, rfl, rfl⟩)))) (hb hby d28_32) hr) hrun hended ⟨_, _, rfl, ?_, ⟨_, rfl⟩, hW, hsame.mono (by decide) (by decide)⟩
  show Q_cb5 Z a1 k1 v0 v1 v2 v3 v4 h0 n0 _ T8.heap _
  rw [e8]
  exact ⟨b3, k3, rfl, N8, f9_2, sz_b3, W8⟩
def Q_co5 (Z : State) (a1 : Addr) (k1 : ClassId) (v0 : Int32) (v1 : Int32) (v2 : Int32) (v3 : Int32) (v4 : Int32) (h0 : Heap) (n0 : Nat) (v : Option Value) (h : Heap) (L : List Loc) : Prop := ∃ fr0 : Addr, ∃ fk0 : ClassId, v = some (.ref fr0) ∧ Fr n0 L ∧ Keep h0 h [] ∧ h0.size ≤ fr0 ∧ Arv Z h fr0 fk0 .byte (4 : Int32) [(.int v0), (.int v1), (.int v2), (.int v3)] (.int 0)
set_option maxRecDepth 65536 in
set_option maxHeartbeats 40000000 in
theorem rm_co5 (l : Launch) (Z : State) (a0 : Array Value) (hw : ∀ d ∈ tables_1, d.before a0 Z = true) (ws : List Jvm.Cond) (a1 : Addr) (k1 : ClassId) (v0 : Int32) (v1 : Int32) (v2 : Int32) (v3 : Int32) (v4 : Int32) (h0 : Heap) (n0 : Nat) (Z0 : n0 ≤ h0.size) (H0 : Arv Z h0 a1 k1 .byte (5 : Int32) [(.int v0), (.int v1), (.int v2), (.int v3), (.int v4)] (.int 0)) :
    Met l Z Y18 jdk_65_method_132_code 3 (some (.array .byte)) ws ({ frames := 2, cells := 1, slots := 4, locals := 34 } : Room) #[(.ref a1), (.int 0), (.int 4)] h0 (Q_co5 Z a1 k1 v0 v1 v2 v3 v4 h0 n0) := by
  refine own_body (plainFor_of_name pn27) ?_
  intro p e s m below meth c s₁ hx hby hret hlk hml hZ hown hnm X0 e0
  have N0 := Fr.nil n0
  refine Wp.back (U' := (s₁.setTop (mkF m 0 #[.val (.ref a1), .val (.int 0), .val (.int 4)] []))) (fun t k => castTop (ef27_RII m a1 (0 : Int32) (4 : Int32)) k) ?_
  refine Wp.back (U' := (s₁.setTop (mkF m 6 #[.val (.ref a1), .val (.int 0), .val (.int 4)] [(.ref a1), (.int 4)]))) (fun t k => XS.iloadN X0.here hx rfl (hb hby d27_0) rfl (XS.ifNo X0.here hx rfl (hb hby d27_1) rfl ((if0 _ _).trans (teq (by decide)).2) (XS.iloadN X0.here hx rfl (hb hby d27_4) rfl (XS.aloadN X0.here hx rfl (hb hby d27_5) rfl rfl k)))) ?_
  have vq1 := H0
  obtain ⟨cl1, Ar1, -, qs1, qn1, -, -⟩ := vq1
  refine Wp.back (U' := (s₁.setTop (mkF m 7 #[.val (.ref a1), .val (.int 0), .val (.int 4)] [(.int 5), (.int 4)]))) (fun t k => X0.arraylength hx (by rw [e0]; exact Ar1.1) (State.isArrayOf_alike hZ.alike Ar1.2.1) (g := (mkF m 6 #[.val (.ref a1), .val (.int 0), .val (.int 4)] [(.ref a1), (.int 4)])) rfl rfl (hb hby d27_6) t (by rw [len_of qs1 qn1]; exact k)) ?_
  refine Wp.back (U' := (s₁.setTop (mkF m 13 #[.val (.ref a1), .val (.int 0), .val (.int 4)] [(.int 4), (.int 0), (.ref a1)]))) (fun t k => XS.icmpNo X0.here hx rfl (hb hby d27_7) rfl (feq (by decide)).1 (XS.aloadN X0.here hx rfl (hb hby d27_10) rfl rfl (XS.iloadN X0.here hx rfl (hb hby d27_11) rfl (XS.iloadN X0.here hx rfl (hb hby d27_12) rfl k)))) ?_
  obtain ⟨_, _, ⟨T2, L2, k2, n2⟩, -, X2, ⟨Lc2, hQ2, l2, y2, z2⟩, st2⟩ := Jvm.LawKit.callS X0 hx (y := Y17) hown (mvT hZ (ow hw 124 rfl)) (mvT hZ (ow hw 125 rfl)) (mvT hZ (ow hw 122 rfl)) (mvT hZ (ow hw 126 rfl)) (by decide) (backOf (W := 0) (rm_cb5 l Z a0 hw [] a1 k1 v0 v1 v2 v3 v4 h0 n0 Z0 H0) hZ (ow hw 126 rfl) (ow hw 122 rfl) (by decide) (by decide)) (g := (mkF m 13 #[.val (.ref a1), .val (.int 0), .val (.int 4)] [(.int 4), (.int 0), (.ref a1)])) rfl (by rw [hml]; rfl) (argsL := [(.ref a1), (.int 0), (.int 4)]) (rest := []) (lenOf pd_10 rfl) rfl (Nat.le_of_eq rfl) (hb hby d27_13) (fun _ _ => ⟨rfl, e0, (by decide : 0 + 1 ≤ _), (by decide : 0 + 4 ≤ _)⟩)
  dsimp only [Pt.U, Pt.locs, Pt.cells, Pt.slots] at X2 l2 y2 z2 st2 hQ2
  subst l2 y2 z2
  obtain ⟨b2_0, k2_0, rfl, N2q, K2, sf2_0, o2_0⟩ := hQ2
  have ne_a1_b2_0 : a1 ≠ b2_0 := Nat.ne_of_lt (Nat.lt_of_lt_of_le H0.lt sf2_0)
  have g_b2_0 : n0 ≤ b2_0 := Nat.le_trans Z0 sf2_0
  have sz_b2_0 : h0.size ≤ b2_0 := Nat.le_trans (Keep.refl h0 []).1 sf2_0
  have f3_0 := Nat.le_trans Z0 K2.1
  have f3_1 := H0.keep K2 nin0
  have f3_2 := (Keep.refl h0 []).trans K2 all0
  have N2 := Fr.app N0 N2q
  refine Wp.back (U' := (T2.setTop (mkF m 16 #[.val (.ref a1), .val (.int 0), .val (.int 4)] [(.ref b2_0)]))) st2 ?_
  obtain ⟨fs, hr, hrun, hended, hW, hsame⟩ := X2.leave (v := (some (.ref b2_0))) (fun h => by rw [hret] at h; cases h)
  refine Wp.done (retOut X2 hx hret rfl (Or.inr (Or.inr (Or.inr (Or.inr ⟨rfl, rfl, rfl⟩)))) (hb hby d27_16) hr) hrun hended ⟨_, _, rfl, ?_, ⟨_, rfl⟩, hW, hsame.mono (by decide) (by decide)⟩
  show Q_co5 Z a1 k1 v0 v1 v2 v3 v4 h0 n0 _ T2.heap _
  exact ⟨b2_0, k2_0, rfl, N2, f3_2, sz_b2_0, o2_0⟩
def Q_nw5 (Z : State) (a1 : Addr) (k1 : ClassId) (v0 : Int32) (v1 : Int32) (v2 : Int32) (v3 : Int32) (v4 : Int32) (h0 : Heap) (n0 : Nat) (v : Option Value) (h : Heap) (L : List Loc) : Prop := ∃ fr0 : Addr, ∃ fr1 : Addr, ∃ fk0 : ClassId, v = some (.ref fr0) ∧ Fr n0 L ∧ Keep h0 h [] ∧ h0.size ≤ fr0 ∧ h0.size ≤ fr1 ∧ Exa Z h fr0 "java/lang/String" ∧ Fld Z h fr0 "java/lang/String" "value" "[B" (.ref fr1) ∧ Fld Z h fr0 "java/lang/String" "coder" "B" (.int 0) ∧ Arv Z h fr1 fk0 .byte (4 : Int32) [(.int v0), (.int v1), (.int v2), (.int v3)] (.int 0)
set_option maxRecDepth 65536 in
set_option maxHeartbeats 40000000 in
theorem rm_nw5 (l : Launch) (Z : State) (a0 : Array Value) (hw : ∀ d ∈ tables_1, d.before a0 Z = true) (ws : List Jvm.Cond) (a1 : Addr) (k1 : ClassId) (v0 : Int32) (v1 : Int32) (v2 : Int32) (v3 : Int32) (v4 : Int32) (h0 : Heap) (n0 : Nat) (Z0 : n0 ≤ h0.size) (H0 : Arv Z h0 a1 k1 .byte (5 : Int32) [(.int v0), (.int v1), (.int v2), (.int v3), (.int v4)] (.int 0)) :
    Met l Z Y19 jdk_43_method_47_code 3 (some (.object "java/lang/String")) ws ({ frames := 3, cells := 2, slots := 8, locals := 50 } : Room) #[(.ref a1), (.int 0), (.int 4)] h0 (Q_nw5 Z a1 k1 v0 v1 v2 v3 v4 h0 n0) := by
  refine own_body (plainFor_of_name pn26) ?_
  intro p e s m below meth c s₁ hx hby hret hlk hml hZ hown hnm X0 e0
  have N0 := Fr.nil n0
  refine Wp.back (U' := (s₁.setTop (mkF m 0 #[.val (.ref a1), .val (.int 0), .val (.int 4)] []))) (fun t k => castTop (ef26_RII m a1 (0 : Int32) (4 : Int32)) k) ?_
  refine Wp.back (U' := (s₁.setTop (mkF m 7 #[.val (.ref a1), .val (.int 0), .val (.int 4)] []))) (fun t k => XS.iloadN X0.here hx rfl (hb hby d26_0) rfl (XS.ifYes X0.here hx rfl (pc0 := 1) (pc' := 7) rfl (hb hby d26_1) rfl ((if0 _ _).trans (feq (by decide)).2) (by decide) (by decide) k)) ?_
  obtain ⟨T1, h1, X1, e1, E1, A1, D1, -, st1⟩ := newO X0 hx hZ hown (ow hw 119 rfl) (ow hw 10 rfl) (ow hw 11 rfl) e0 (g := (mkF m 7 #[.val (.ref a1), .val (.int 0), .val (.int 4)] [])) rfl (hb hby d26_7) (by decide) (by decide)
  obtain ⟨b1, g1⟩ : ∃ z, z = h0.size := ⟨_, rfl⟩
  rw [← g1] at A1 D1 st1
  have ne_a1_b1 : a1 ≠ b1 := Nat.ne_of_lt (Nat.lt_of_lt_of_le H0.lt (Nat.le_of_eq g1.symm))
  have g_b1 : n0 ≤ b1 := Nat.le_trans Z0 (Nat.le_of_eq g1.symm)
  have sz_b1 : h0.size ≤ b1 := Nat.le_trans (Keep.refl h0 []).1 (Nat.le_of_eq g1.symm)
  have f2_0 := Nat.le_trans Z0 E1.1
  have f2_1 := H0.ext E1
  have f2_2 := (Keep.refl h0 []).ext E1
  have F1_35 : Fld Z h1 b1 "java/lang/String" "coder" "B" (.int 0) := D1 (Or.inr (ow hw 35 rfl)) (ty := .byte) (by decide)
  have F1_37 : Fld Z h1 b1 "java/lang/String" "value" "[B" .null := D1 (Or.inr (ow hw 37 rfl)) (ty := (.array .byte)) (by decide)
  refine Wp.back (U' := (T1.setTop (mkF m 10 #[.val (.ref a1), .val (.int 0), .val (.int 4)] [(.ref b1)]))) st1 ?_
  refine Wp.back (U' := (T1.setTop (mkF m 16 #[.val (.ref a1), .val (.int 0), .val (.int 4)] [(.int 4), (.int 0), (.ref a1), (.ref b1), (.ref b1)]))) (fun t k => XS.dup X1.here hx rfl (hb hby d26_10) rfl rfl (XS.aloadN X1.here hx rfl (hb hby d26_11) rfl rfl (XS.iloadN X1.here hx rfl (hb hby d26_12) rfl (XS.iloadN X1.here hx rfl (hb hby d26_13) rfl (XS.iloadN X1.here hx rfl (hb hby d26_14) rfl (XS.iadd X1.here hx rfl (hb hby d26_15) rfl k)))))) ?_
  obtain ⟨_, _, ⟨T3, L3, k3, n3⟩, -, X3, ⟨Lc3, hQ3, l3, y3, z3⟩, st3⟩ := Jvm.LawKit.callS X1 hx (y := Y18) hown (mvT hZ (ow hw 120 rfl)) (mvT hZ (ow hw 121 rfl)) (mvT hZ (ow hw 122 rfl)) (mvT hZ (ow hw 123 rfl)) (by decide) (backOf (W := 2) (rm_co5 l Z a0 hw [] a1 k1 v0 v1 v2 v3 v4 h1 n0 f2_0 f2_1) hZ (ow hw 123 rfl) (ow hw 122 rfl) (by decide) (by decide)) (g := (mkF m 16 #[.val (.ref a1), .val (.int 0), .val (.int 4)] [(.int 4), (.int 0), (.ref a1), (.ref b1), (.ref b1)])) rfl (by rw [hml]; rfl) (argsL := [(.ref a1), (.int 0), (.int 4)]) (rest := [(.ref b1), (.ref b1)]) (lenOf pd_10 rfl) rfl (Nat.le_of_eq rfl) (hb hby d26_16) (fun _ _ => ⟨rfl, e1, (by decide : 1 + 1 ≤ _), (by decide : 4 + 4 ≤ _)⟩)
  dsimp only [Pt.U, Pt.locs, Pt.cells, Pt.slots] at X3 l3 y3 z3 st3 hQ3
  subst l3 y3 z3
  obtain ⟨b3_0, k3_0, rfl, N3q, K3, sf3_0, o3_0⟩ := hQ3
  have ne_a1_b3_0 : a1 ≠ b3_0 := Nat.ne_of_lt (Nat.lt_of_lt_of_le f2_1.lt sf3_0)
  have ne_b1_b3_0 : b1 ≠ b3_0 := Nat.ne_of_lt (Nat.lt_of_lt_of_le A1.lt sf3_0)
  have g_b3_0 : n0 ≤ b3_0 := Nat.le_trans f2_0 sf3_0
  have sz_b3_0 : h0.size ≤ b3_0 := Nat.le_trans f2_2.1 sf3_0
  have f4_0 := Nat.le_trans f2_0 K3.1
  have f4_1 := f2_1.keep K3 nin0
  have f4_2 := f2_2.trans K3 all0
  have f4_3 := A1.keep K3
  have f4_4 := F1_35.keep K3 nin0
  have f4_5 := F1_37.keep K3 nin0
  have N3 := Fr.app N0 N3q
  refine Wp.back (U' := (T3.setTop (mkF m 19 #[.val (.ref a1), .val (.int 0), .val (.int 4)] [(.ref b3_0), (.ref b1), (.ref b1)]))) st3 ?_
  refine Wp.back (U' := (T3.setTop (mkF m 20 #[.val (.ref a1), .val (.int 0), .val (.int 4)] [(.int 0), (.ref b3_0), (.ref b1), (.ref b1)]))) (fun t k => XT.iconstV X3.here hx rfl 0 (hb hby d26_19) (by decide) k) ?_
  obtain ⟨_, _, ⟨T5, L5, k5, n5⟩, -, X5, ⟨Lc5, hQ5, l5, y5, z5⟩, st5⟩ := X3.specialBack hx (y := Y15) rfl hown (mvT hZ (ow hw 138 rfl)) (mvT hZ (ow hw 139 rfl)) (mvT hZ (ow hw 140 rfl)) (by decide) (backOf (W := 1) (rm_sib l Z a0 hw [] b1 b3_0  T3.heap n0 f4_0 f4_3 f4_5 f4_4 g_b1) hZ (ow hw 140 rfl) (ow hw 11 rfl) (by decide) (by decide)) (g := (mkF m 20 #[.val (.ref a1), .val (.int 0), .val (.int 4)] [(.int 0), (.ref b3_0), (.ref b1), (.ref b1)])) rfl (by rw [hml]; rfl) (Steps.refl _) (a := b1) (argsL := [(.ref b3_0), (.int 0)]) (rest := [(.ref b1)]) (lenOf pd_11 rfl) rfl (Nat.le_of_eq rfl) (hb hby d26_20) (fun _ _ => ⟨rfl, rfl, (by decide : 2 + 0 ≤ _), (by decide : 8 + 0 ≤ _)⟩)
  dsimp only [Pt.U, Pt.locs, Pt.cells, Pt.slots] at X5 l5 y5 z5 st5 hQ5
  subst l5 y5 z5
  obtain ⟨rfl, N5q, K5, o5_0, o5_1, o5_2⟩ := hQ5
  have f6_0 := Nat.le_trans f4_0 K5.1
  have f6_1 := f4_1.keep K5 (ninS ne_a1_b1 nin0)
  have f6_2 := f4_2.trans K5 (allS (Or.inr sz_b1) all0)
  have f6_3 := f4_3.keep K5
  have f6_6 := o3_0.keep K5 (ninS (Ne.symm ne_b1_b3_0) nin0)
  have N5 := Fr.app N3 N5q
  refine Wp.back (U' := (T5.setTop (mkF m 23 #[.val (.ref a1), .val (.int 0), .val (.int 4)] [(.ref b1)]))) (fun t k => st5.trans k) ?_
  obtain ⟨fs, hr, hrun, hended, hW, hsame⟩ := X5.leave (v := (some (.ref b1))) (fun h => by rw [hret] at h; cases h)
  refine Wp.done (retOut X5 hx hret rfl (Or.inr (Or.inr (Or.inr (Or.inr ⟨rfl, rfl, rfl⟩)))) (hb hby d26_23) hr) hrun hended ⟨_, _, rfl, ?_, ⟨_, rfl⟩, hW, hsame.mono (by decide) (by decide)⟩
  show Q_nw5 Z a1 k1 v0 v1 v2 v3 v4 h0 n0 _ T5.heap _
  exact ⟨b1, b3_0, k3_0, rfl, N5, f6_2, sz_b1, sz_b3_0, o5_0, o5_1, o5_2, f6_6⟩
def Q_ss5 (Z : State) (ar : Addr) (a1 : Addr) (cs : Int32) (fm : Value) (k1 : ClassId) (v0 : Int32) (v1 : Int32) (v2 : Int32) (v3 : Int32) (v4 : Int32) (h0 : Heap) (n0 : Nat) (v : Option Value) (h : Heap) (L : List Loc) : Prop := ∃ fr0 : Addr, ∃ fr1 : Addr, ∃ fk0 : ClassId, v = some (.ref fr0) ∧ Fr n0 L ∧ Keep h0 h [] ∧ h0.size ≤ fr0 ∧ h0.size ≤ fr1 ∧ Exa Z h fr0 "java/lang/String" ∧ Fld Z h fr0 "java/lang/String" "value" "[B" (.ref fr1) ∧ Fld Z h fr0 "java/lang/String" "coder" "B" (.int 0) ∧ Arv Z h fr1 fk0 .byte (4 : Int32) [(.int v0), (.int v1), (.int v2), (.int v3)] (.int 0)
set_option maxRecDepth 65536 in
set_option maxHeartbeats 40000000 in
theorem rm_ss5 (l : Launch) (Z : State) (a0 : Array Value) (hw : ∀ d ∈ tables_1, d.before a0 Z = true) (ws : List Jvm.Cond) (ar : Addr) (a1 : Addr) (cs : Int32) (fm : Value) (k1 : ClassId) (v0 : Int32) (v1 : Int32) (v2 : Int32) (v3 : Int32) (v4 : Int32) (h0 : Heap) (n0 : Nat) (Z0 : n0 ≤ h0.size) (H0 : Exa Z h0 ar "java/lang/String") (H1 : Fld Z h0 ar "java/lang/String" "value" "[B" (.ref a1)) (H2 : Fld Z h0 ar "java/lang/String" "coder" "B" (.int 0)) (H3 : Arv Z h0 a1 k1 .byte (5 : Int32) [(.int v0), (.int v1), (.int v2), (.int v3), (.int v4)] (.int 0)) (H4 : Sta Z h0 "java/lang/String" "COMPACT_STRINGS" "Z" (.int cs)) (H5 : Sta Z h0 "jdk/internal/util/Preconditions" "SIOOBE_FORMATTER" "Ljava/util/function/BiFunction;" fm) (isr_fm : fm.isRef = true) (hcs : ¬ cs = (0 : Int32)) :
    Met l Z Y20 jdk_42_method_92_code 5 (some (.object "java/lang/String")) ws ({ frames := 4, cells := 2, slots := 8, locals := 64 } : Room) #[(.ref ar), (.int 0), (.int 4)] h0 (Q_ss5 Z ar a1 cs fm k1 v0 v1 v2 v3 v4 h0 n0) := by
  refine own_body (plainFor_of_name pn21) ?_
  intro p e s m below meth c s₁ hx hby hret hlk hml hZ hown hnm X0 e0
  have N0 := Fr.nil n0
  refine Wp.back (U' := (s₁.setTop (mkF m 0 #[.val (.ref ar), .val (.int 0), .val (.int 4), .unset, .unset] []))) (fun t k => castTop (ef21_RII m ar (0 : Int32) (4 : Int32)) k) ?_
  refine Wp.back (U' := (s₁.setTop (mkF m 1 #[.val (.ref ar), .val (.int 0), .val (.int 4), .unset, .unset] [(.ref ar)]))) (fun t k => XS.aloadN X0.here hx rfl (hb hby d21_0) rfl rfl k) ?_
  obtain ⟨cq1, kq1, q1a, q1b, q1c⟩ := isOf hZ e0 H0
  obtain ⟨_, _, ⟨T1, L1, k1, n1⟩, -, X1, ⟨Lc1, hQ1, l1, y1, z1⟩, st1⟩ := X0.virtualBack hx (y := Y9) (z := Y9) hown (mvT hZ (ow hw 51 rfl)) (mvT hZ (ow hw 52 rfl)) (notFace_of_selects (args := #[]) (mvT hZ (ow hw 54 rfl))) (mvT hZ (ow hw 54 rfl)) (mvT hZ (ow hw 53 rfl)) (by decide) (backOf (W := 0) (rm_len l Z a0 hw [] ar a1 k1 (5 : Int32) [(.int v0), (.int v1), (.int v2), (.int v3), (.int v4)] (.int 0) cs h0 n0 Z0 H0 H1 H2 H3 H4 hcs) hZ (ow hw 55 rfl) (ow hw 11 rfl) (by decide) (by decide)) q1a q1c (g := (mkF m 1 #[.val (.ref ar), .val (.int 0), .val (.int 4), .unset, .unset] [(.ref ar)])) rfl (by rw [hml]; rfl) (Steps.refl _) (argsL := []) (rest := []) (lenOf pd_6 rfl) rfl (Nat.le_of_eq rfl) (hb hby d21_1) (fun _ _ => ⟨rfl, e0, (by decide : 0 + 0 ≤ _), (by decide : 0 + 0 ≤ _)⟩)
  dsimp only [Pt.U, Pt.locs, Pt.cells, Pt.slots] at X1 l1 y1 z1 st1 hQ1
  subst l1 y1 z1
  obtain ⟨rfl, N1q, K1⟩ := hQ1
  have f2_0 := Nat.le_trans Z0 K1.1
  have f2_1 := H0.keep K1
  have f2_2 := H1.keep K1 nin0
  have f2_3 := H2.keep K1 nin0
  have f2_4 := H3.keep K1 nin0
  have f2_5 := Sta_keep0 H4 K1
  have f2_6 := Sta_keep0 H5 K1
  have f2_7 := (Keep.refl h0 []).trans K1 all0
  have N1 := Fr.app N0 N1q
  refine Wp.back (U' := (T1.setTop (mkF m 4 #[.val (.ref ar), .val (.int 0), .val (.int 4), .unset, .unset] [(.int 5)]))) (fun t k => st1.trans k) ?_
  refine Wp.back (U' := (T1.setTop (mkF m 8 #[.val (.ref ar), .val (.int 0), .val (.int 4), .val (.int 5), .unset] [(.int 5), (.int 4), (.int 0)]))) (fun t k => XS.istoreN X1.here hx rfl (hb hby d21_4) rfl (l' := #[.val (.ref ar), .val (.int 0), .val (.int 4), .val (.int 5), .unset]) rfl (XS.iloadN X1.here hx rfl (hb hby d21_5) rfl (XS.iloadN X1.here hx rfl (hb hby d21_6) rfl (XS.iloadN X1.here hx rfl (hb hby d21_7) rfl k)))) ?_
  obtain ⟨_, _, ⟨T3, L3, k3, n3⟩, -, X3, ⟨Lc3, hQ3, l3, y3, z3⟩, st3⟩ := Jvm.LawKit.callS X1 hx (y := Y5) hown (mvT hZ (ow hw 101 rfl)) (mvT hZ (ow hw 102 rfl)) (mvT hZ (ow hw 11 rfl)) (mvT hZ (ow hw 103 rfl)) (by decide) (backOf (W := 0) (rm_cbe l Z a0 hw [] (0 : Int32) (4 : Int32) (5 : Int32) fm T1.heap n0 f2_0 f2_6 isr_fm (by decide) (by decide) (by decide)) hZ (ow hw 103 rfl) (ow hw 11 rfl) (by decide) (by decide)) (g := (mkF m 8 #[.val (.ref ar), .val (.int 0), .val (.int 4), .val (.int 5), .unset] [(.int 5), (.int 4), (.int 0)])) rfl (by rw [hml]; rfl) (argsL := [(.int 0), (.int 4), (.int 5)]) (rest := []) (lenOf pd_12 rfl) rfl (Nat.le_of_eq rfl) (hb hby d21_8) (fun _ _ => ⟨rfl, rfl, (by decide : 0 + 0 ≤ _), (by decide : 0 + 0 ≤ _)⟩)
  dsimp only [Pt.U, Pt.locs, Pt.cells, Pt.slots] at X3 l3 y3 z3 st3 hQ3
  subst l3 y3 z3
  obtain ⟨rfl, N3q, K3⟩ := hQ3
  have f4_0 := Nat.le_trans f2_0 K3.1
  have f4_1 := f2_1.keep K3
  have f4_2 := f2_2.keep K3 nin0
  have f4_3 := f2_3.keep K3 nin0
  have f4_4 := f2_4.keep K3 nin0
  have f4_5 := Sta_keep0 f2_5 K3
  have f4_6 := Sta_keep0 f2_6 K3
  have f4_7 := f2_7.trans K3 all0
  have N3 := Fr.app N1 N3q
  refine Wp.back (U' := (T3.setTop (mkF m 11 #[.val (.ref ar), .val (.int 0), .val (.int 4), .val (.int 5), .unset] []))) st3 ?_
  refine Wp.back (U' := (T3.setTop (mkF m 28 #[.val (.ref ar), .val (.int 0), .val (.int 4), .val (.int 5), .val (.int 4)] [(.ref ar)]))) (fun t k => XS.iloadN X3.here hx rfl (hb hby d21_11) rfl (XS.ifNo X3.here hx rfl (hb hby d21_12) rfl ((if0 _ _).trans (teq (by decide)).2) (XS.iloadN X3.here hx rfl (hb hby d21_15) rfl (XS.iloadN X3.here hx rfl (hb hby d21_16) rfl (XS.icmpYes X3.here hx rfl (pc0 := 17) (pc' := 22) rfl (hb hby d21_17) rfl (feq (by decide)).2 (by decide) (by decide) (XS.iloadN X3.here hx rfl (hb hby d21_22) rfl (XS.iloadN X3.here hx rfl (hb hby d21_23) rfl (XS.isub X3.here hx rfl (hb hby d21_24) rfl (XS.istore X3.here hx rfl (hb hby d21_25) rfl (l' := #[.val (.ref ar), .val (.int 0), .val (.int 4), .val (.int 5), .val (.int 4)]) rfl (XS.aloadN X3.here hx rfl (hb hby d21_27) rfl rfl k)))))))))) ?_
  obtain ⟨cq5, kq5, q5a, q5b, q5c⟩ := isOf hZ rfl f4_1
  obtain ⟨_, _, ⟨T5, L5, k5, n5⟩, -, X5, ⟨Lc5, hQ5, l5, y5, z5⟩, st5⟩ := X3.virtualBack hx (y := Y8) (z := Y8) hown (mvT hZ (ow hw 76 rfl)) (mvT hZ (ow hw 77 rfl)) (notFace_of_selects (args := #[]) (mvT hZ (ow hw 79 rfl))) (mvT hZ (ow hw 79 rfl)) (mvT hZ (ow hw 78 rfl)) (by decide) (backOf (W := 0) (rm_isl l Z a0 hw [] ar cs T3.heap n0 f4_0 f4_3 f4_5 hcs) hZ (ow hw 80 rfl) (ow hw 11 rfl) (by decide) (by decide)) q5a q5c (g := (mkF m 28 #[.val (.ref ar), .val (.int 0), .val (.int 4), .val (.int 5), .val (.int 4)] [(.ref ar)])) rfl (by rw [hml]; rfl) (Steps.refl _) (argsL := []) (rest := []) (lenOf pd_4 rfl) rfl (Nat.le_of_eq rfl) (hb hby d21_28) (fun _ _ => ⟨rfl, rfl, (by decide : 0 + 0 ≤ _), (by decide : 0 + 0 ≤ _)⟩)
  dsimp only [Pt.U, Pt.locs, Pt.cells, Pt.slots] at X5 l5 y5 z5 st5 hQ5
  subst l5 y5 z5
  obtain ⟨rfl, N5q, K5⟩ := hQ5
  have f6_0 := Nat.le_trans f4_0 K5.1
  have f6_1 := f4_1.keep K5
  have f6_2 := f4_2.keep K5 nin0
  have f6_3 := f4_3.keep K5 nin0
  have f6_4 := f4_4.keep K5 nin0
  have f6_5 := Sta_keep0 f4_5 K5
  have f6_6 := Sta_keep0 f4_6 K5
  have f6_7 := f4_7.trans K5 all0
  have N5 := Fr.app N3 N5q
  refine Wp.back (U' := (T5.setTop (mkF m 31 #[.val (.ref ar), .val (.int 0), .val (.int 4), .val (.int 5), .val (.int 4)] [(.int 1)]))) (fun t k => st5.trans k) ?_
  refine Wp.back (U' := (T5.setTop (mkF m 35 #[.val (.ref ar), .val (.int 0), .val (.int 4), .val (.int 5), .val (.int 4)] [(.ref ar)]))) (fun t k => XS.ifNo X5.here hx rfl (hb hby d21_31) rfl ((if0 _ _).trans (feq (by decide)).1) (XS.aloadN X5.here hx rfl (hb hby d21_34) rfl rfl k)) ?_
  obtain ⟨T7, X7, e7, st7⟩ := getF X5 hx hZ hown (host := "") (Or.inl (ow hw 36 rfl)) Via.refl rfl f6_2 (g := (mkF m 35 #[.val (.ref ar), .val (.int 0), .val (.int 4), .val (.int 5), .val (.int 4)] [(.ref ar)])) rfl rfl (hb hby d21_35)
  refine Wp.back (U' := (T7.setTop (mkF m 38 #[.val (.ref ar), .val (.int 0), .val (.int 4), .val (.int 5), .val (.int 4)] [(.ref a1)]))) st7 ?_
  refine Wp.back (U' := (T7.setTop (mkF m 41 #[.val (.ref ar), .val (.int 0), .val (.int 4), .val (.int 5), .val (.int 4)] [(.int 4), (.int 0), (.ref a1)]))) (fun t k => XS.iloadN X7.here hx rfl (hb hby d21_38) rfl (XS.iload X7.here hx rfl (hb hby d21_39) rfl k)) ?_
  obtain ⟨_, _, ⟨T8, L8, k8, n8⟩, -, X8, ⟨Lc8, hQ8, l8, y8, z8⟩, st8⟩ := Jvm.LawKit.callS X7 hx (y := Y19) hown (mvT hZ (ow hw 116 rfl)) (mvT hZ (ow hw 117 rfl)) (mvT hZ (ow hw 83 rfl)) (mvT hZ (ow hw 118 rfl)) (by decide) (backOf (W := 0) (rm_nw5 l Z a0 hw [] a1 k1 v0 v1 v2 v3 v4 T5.heap n0 f6_0 f6_4) hZ (ow hw 118 rfl) (ow hw 83 rfl) (by decide) (by decide)) (g := (mkF m 41 #[.val (.ref ar), .val (.int 0), .val (.int 4), .val (.int 5), .val (.int 4)] [(.int 4), (.int 0), (.ref a1)])) rfl (by rw [hml]; rfl) (argsL := [(.ref a1), (.int 0), (.int 4)]) (rest := []) (lenOf pd_13 rfl) rfl (Nat.le_of_eq rfl) (hb hby d21_41) (fun _ _ => ⟨rfl, e7, (by decide : 0 + 2 ≤ _), (by decide : 0 + 8 ≤ _)⟩)
  dsimp only [Pt.U, Pt.locs, Pt.cells, Pt.slots] at X8 l8 y8 z8 st8 hQ8
  subst l8 y8 z8
  obtain ⟨b8_0, b8_1, k8_0, rfl, N8q, K8, sf8_0, sf8_1, o8_0, o8_1, o8_2, o8_3⟩ := hQ8
  have ne_ar_b8_0 : ar ≠ b8_0 := Nat.ne_of_lt (Nat.lt_of_lt_of_le f6_1.lt sf8_0)
  have ne_a1_b8_0 : a1 ≠ b8_0 := Nat.ne_of_lt (Nat.lt_of_lt_of_le f6_4.lt sf8_0)
  have g_b8_0 : n0 ≤ b8_0 := Nat.le_trans f6_0 sf8_0
  have sz_b8_0 : h0.size ≤ b8_0 := Nat.le_trans f6_7.1 sf8_0
  have ne_ar_b8_1 : ar ≠ b8_1 := Nat.ne_of_lt (Nat.lt_of_lt_of_le f6_1.lt sf8_1)
  have ne_a1_b8_1 : a1 ≠ b8_1 := Nat.ne_of_lt (Nat.lt_of_lt_of_le f6_4.lt sf8_1)
  have g_b8_1 : n0 ≤ b8_1 := Nat.le_trans f6_0 sf8_1
  have sz_b8_1 : h0.size ≤ b8_1 := Nat.le_trans f6_7.1 sf8_1
  have f9_0 := Nat.le_trans f6_0 K8.1
  have f9_1 := f6_1.keep K8
  have f9_2 := f6_2.keep K8 nin0
  have f9_3 := f6_3.keep K8 nin0
  have f9_4 := f6_4.keep K8 nin0
  have f9_5 := Sta_keep0 f6_5 K8
  have f9_6 := Sta_keep0 f6_6 K8
  have f9_7 := f6_7.trans K8 all0
  have N8 := Fr.app N5 N8q
  refine Wp.back (U' := (T8.setTop (mkF m 44 #[.val (.ref ar), .val (.int 0), .val (.int 4), .val (.int 5), .val (.int 4)] [(.ref b8_0)]))) st8 ?_
  refine Wp.back (U' := (T8.setTop (mkF m 57 #[.val (.ref ar), .val (.int 0), .val (.int 4), .val (.int 5), .val (.int 4)] [(.ref b8_0)]))) (fun t k => XS.goto X8.here hx rfl (pc0 := 44) (pc' := 57) rfl (hb hby d21_44) (by decide) (by decide) k) ?_
  obtain ⟨fs, hr, hrun, hended, hW, hsame⟩ := X8.leave (v := (some (.ref b8_0))) (fun h => by rw [hret] at h; cases h)
  refine Wp.done (retOut X8 hx hret rfl (Or.inr (Or.inr (Or.inr (Or.inr ⟨rfl, rfl, rfl⟩)))) (hb hby d21_57) hr) hrun hended ⟨_, _, rfl, ?_, ⟨_, rfl⟩, hW, hsame.mono (by decide) (by decide)⟩
  show Q_ss5 Z ar a1 cs fm k1 v0 v1 v2 v3 v4 h0 n0 _ T8.heap _
  exact ⟨b8_0, b8_1, k8_0, rfl, N8, f9_7, sz_b8_0, sz_b8_1, o8_0, o8_1, o8_2, o8_3⟩
def Q_sq (Z : State) (ar : Addr) (n1 : Int32) (a1 : Addr) (cs : Int32) (fm : Value) (k1 : ClassId) (vs1 : List Value) (dv1 : Value) (h0 : Heap) (n0 : Nat) (v : Option Value) (h : Heap) (L : List Loc) : Prop := v = some (.ref ar) ∧ Fr n0 L ∧ Keep h0 h []
theorem d21_20 : decode jdk_42_method_92_code 20 = .ok (.aload_n 0, 1) := by decide +kernel
theorem d21_21 : decode jdk_42_method_92_code 21 = .ok (.areturn, 1) := by decide +kernel
set_option maxRecDepth 65536 in
set_option maxHeartbeats 40000000 in
theorem rm_sq (l : Launch) (Z : State) (a0 : Array Value) (hw : ∀ d ∈ tables_1, d.before a0 Z = true) (ws : List Jvm.Cond) (ar : Addr) (n1 : Int32) (a1 : Addr) (cs : Int32) (fm : Value) (k1 : ClassId) (vs1 : List Value) (dv1 : Value) (h0 : Heap) (n0 : Nat) (Z0 : n0 ≤ h0.size) (H0 : Exa Z h0 ar "java/lang/String") (H1 : Fld Z h0 ar "java/lang/String" "value" "[B" (.ref a1)) (H2 : Fld Z h0 ar "java/lang/String" "coder" "B" (.int 0)) (H3 : Arv Z h0 a1 k1 .byte n1 vs1 dv1) (H4 : Sta Z h0 "java/lang/String" "COMPACT_STRINGS" "Z" (.int cs)) (H5 : Sta Z h0 "jdk/internal/util/Preconditions" "SIOOBE_FORMATTER" "Ljava/util/function/BiFunction;" fm) (isr_fm : fm.isRef = true) (hb0 : ¬ n1 < (0 : Int32)) (hcs : ¬ cs = (0 : Int32)) :
    Met l Z Y20 jdk_42_method_92_code 5 (some (.object "java/lang/String")) ws ({ frames := 2, cells := 0, slots := 0, locals := 29 } : Room) #[(.ref ar), (.int 0), (.int n1)] h0 (Q_sq Z ar n1 a1 cs fm k1 vs1 dv1 h0 n0) := by
  refine own_body (plainFor_of_name pn21) ?_
  intro p e s m below meth c s₁ hx hby hret hlk hml hZ hown hnm X0 e0
  have N0 := Fr.nil n0
  refine Wp.back (U' := (s₁.setTop (mkF m 0 #[.val (.ref ar), .val (.int 0), .val (.int n1), .unset, .unset] []))) (fun t k => castTop (ef21_RII m ar (0 : Int32) n1) k) ?_
  refine Wp.back (U' := (s₁.setTop (mkF m 1 #[.val (.ref ar), .val (.int 0), .val (.int n1), .unset, .unset] [(.ref ar)]))) (fun t k => XS.aloadN X0.here hx rfl (hb hby d21_0) rfl rfl k) ?_
  obtain ⟨cq1, kq1, q1a, q1b, q1c⟩ := isOf hZ e0 H0
  obtain ⟨_, _, ⟨T1, L1, k1, n1⟩, -, X1, ⟨Lc1, hQ1, l1, y1, z1⟩, st1⟩ := X0.virtualBack hx (y := Y9) (z := Y9) hown (mvT hZ (ow hw 51 rfl)) (mvT hZ (ow hw 52 rfl)) (notFace_of_selects (args := #[]) (mvT hZ (ow hw 54 rfl))) (mvT hZ (ow hw 54 rfl)) (mvT hZ (ow hw 53 rfl)) (by decide) (backOf (W := 0) (rm_len l Z a0 hw [] ar a1 k1 n1 vs1 dv1 cs h0 n0 Z0 H0 H1 H2 H3 H4 hcs) hZ (ow hw 55 rfl) (ow hw 11 rfl) (by decide) (by decide)) q1a q1c (g := (mkF m 1 #[.val (.ref ar), .val (.int 0), .val (.int n1), .unset, .unset] [(.ref ar)])) rfl (by rw [hml]; rfl) (Steps.refl _) (argsL := []) (rest := []) (lenOf pd_6 rfl) rfl (Nat.le_of_eq rfl) (hb hby d21_1) (fun _ _ => ⟨rfl, e0, (by decide : 0 + 0 ≤ _), (by decide : 0 + 0 ≤ _)⟩)
  dsimp only [Pt.U, Pt.locs, Pt.cells, Pt.slots] at X1 l1 y1 z1 st1 hQ1
  subst l1 y1 z1
  obtain ⟨rfl, N1q, K1⟩ := hQ1
  have f2_0 := Nat.le_trans Z0 K1.1
  have f2_1 := H0.keep K1
  have f2_2 := H1.keep K1 nin0
  have f2_3 := H2.keep K1 nin0
  have f2_4 := H3.keep K1 nin0
  have f2_5 := Sta_keep0 H4 K1
  have f2_6 := Sta_keep0 H5 K1
  have f2_7 := (Keep.refl h0 []).trans K1 all0
  have N1 := Fr.app N0 N1q
  refine Wp.back (U' := (T1.setTop (mkF m 4 #[.val (.ref ar), .val (.int 0), .val (.int n1), .unset, .unset] [(.int n1)]))) (fun t k => st1.trans k) ?_
  refine Wp.back (U' := (T1.setTop (mkF m 8 #[.val (.ref ar), .val (.int 0), .val (.int n1), .val (.int n1), .unset] [(.int n1), (.int n1), (.int 0)]))) (fun t k => XS.istoreN X1.here hx rfl (hb hby d21_4) rfl (l' := #[.val (.ref ar), .val (.int 0), .val (.int n1), .val (.int n1), .unset]) rfl (XS.iloadN X1.here hx rfl (hb hby d21_5) rfl (XS.iloadN X1.here hx rfl (hb hby d21_6) rfl (XS.iloadN X1.here hx rfl (hb hby d21_7) rfl k)))) ?_
  obtain ⟨_, _, ⟨T3, L3, k3, n3⟩, -, X3, ⟨Lc3, hQ3, l3, y3, z3⟩, st3⟩ := Jvm.LawKit.callS X1 hx (y := Y5) hown (mvT hZ (ow hw 101 rfl)) (mvT hZ (ow hw 102 rfl)) (mvT hZ (ow hw 11 rfl)) (mvT hZ (ow hw 103 rfl)) (by decide) (backOf (W := 0) (rm_cbe l Z a0 hw [] (0 : Int32) n1 n1 fm T1.heap n0 f2_0 f2_6 isr_fm (by decide) hb0 (own_irrefl _)) hZ (ow hw 103 rfl) (ow hw 11 rfl) (by decide) (by decide)) (g := (mkF m 8 #[.val (.ref ar), .val (.int 0), .val (.int n1), .val (.int n1), .unset] [(.int n1), (.int n1), (.int 0)])) rfl (by rw [hml]; rfl) (argsL := [(.int 0), (.int n1), (.int n1)]) (rest := []) (lenOf pd_12 rfl) rfl (Nat.le_of_eq rfl) (hb hby d21_8) (fun _ _ => ⟨rfl, rfl, (by decide : 0 + 0 ≤ _), (by decide : 0 + 0 ≤ _)⟩)
  dsimp only [Pt.U, Pt.locs, Pt.cells, Pt.slots] at X3 l3 y3 z3 st3 hQ3
  subst l3 y3 z3
  obtain ⟨rfl, N3q, K3⟩ := hQ3
  have f4_0 := Nat.le_trans f2_0 K3.1
  have f4_1 := f2_1.keep K3
  have f4_2 := f2_2.keep K3 nin0
  have f4_3 := f2_3.keep K3 nin0
  have f4_4 := f2_4.keep K3 nin0
  have f4_5 := Sta_keep0 f2_5 K3
  have f4_6 := Sta_keep0 f2_6 K3
  have f4_7 := f2_7.trans K3 all0
  have N3 := Fr.app N1 N3q
  refine Wp.back (U' := (T3.setTop (mkF m 11 #[.val (.ref ar), .val (.int 0), .val (.int n1), .val (.int n1), .unset] []))) st3 ?_
  refine Wp.back (U' := (T3.setTop (mkF m 21 #[.val (.ref ar), .val (.int 0), .val (.int n1), .val (.int n1), .unset] [(.ref ar)]))) (fun t k => XS.iloadN X3.here hx rfl (hb hby d21_11) rfl (XS.ifNo X3.here hx rfl (hb hby d21_12) rfl ((if0 _ _).trans (teq (by decide)).2) (XS.iloadN X3.here hx rfl (hb hby d21_15) rfl (XS.iloadN X3.here hx rfl (hb hby d21_16) rfl (XS.icmpNo X3.here hx rfl (hb hby d21_17) rfl (teq (rfl : n1 = n1)).2 (XS.aloadN X3.here hx rfl (hb hby d21_20) rfl rfl k)))))) ?_
  obtain ⟨fs, hr, hrun, hended, hW, hsame⟩ := X3.leave (v := (some (.ref ar))) (fun h => by rw [hret] at h; cases h)
  refine Wp.done (retOut X3 hx hret rfl (Or.inr (Or.inr (Or.inr (Or.inr ⟨rfl, rfl, rfl⟩)))) (hb hby d21_21) hr) hrun hended ⟨_, _, rfl, ?_, ⟨_, rfl⟩, hW, hsame.mono (by decide) (by decide)⟩
  show Q_sq Z ar n1 a1 cs fm k1 vs1 dv1 h0 n0 _ T3.heap _
  exact ⟨rfl, N3, f4_7⟩
def Q_dge2 (Z : State) (ar : Addr) (br : Addr) (va : Addr) (cs : Int32) (fm : Value) (vk : ClassId) (v0 : Int32) (v1 : Int32) (h0 : Heap) (n0 : Nat) (v : Option Value) (h : Heap) (L : List Loc) : Prop := ∃ fr0 : Addr, ∃ fr1 : Addr, ∃ fk0 : ClassId, v = some (.ref fr0) ∧ Fr n0 L ∧ Keep h0 h [] ∧ h0.size ≤ fr0 ∧ h0.size ≤ fr1 ∧ Exa Z h fr0 "java/lang/String" ∧ Fld Z h fr0 "java/lang/String" "value" "[B" (.ref fr1) ∧ Fld Z h fr0 "java/lang/String" "coder" "B" (.int 0) ∧ Arv Z h fr1 fk0 .byte (1 : Int32) [(.int v0)] (.int 0)
theorem d9_0 : decode prog_36_method_3_code 0 = .ok (.aload_n 0, 1) := by decide +kernel
theorem d9_1 : decode prog_36_method_3_code 1 = .ok (.ldc 18, 2) := by decide +kernel
theorem d9_3 : decode prog_36_method_3_code 3 = .ok (.invokevirtual 20, 3) := by decide +kernel
theorem d9_6 : decode prog_36_method_3_code 6 = .ok (.ifCond .eq 12, 3) := by decide +kernel
theorem d9_9 : decode prog_36_method_3_code 9 = .ok (.aload_n 0, 1) := by decide +kernel
theorem d9_10 : decode prog_36_method_3_code 10 = .ok (.invokevirtual 26, 3) := by decide +kernel
theorem d9_13 : decode prog_36_method_3_code 13 = .ok (.iconst 1, 1) := by decide +kernel
theorem d9_14 : decode prog_36_method_3_code 14 = .ok (.isub, 1) := by decide +kernel
theorem d9_15 : decode prog_36_method_3_code 15 = .ok (.goto 7, 3) := by decide +kernel
theorem d9_22 : decode prog_36_method_3_code 22 = .ok (.istore_n 2, 1) := by decide +kernel
theorem d9_23 : decode prog_36_method_3_code 23 = .ok (.iload_n 2, 1) := by decide +kernel
theorem d9_24 : decode prog_36_method_3_code 24 = .ok (.ifCond .ne 17, 3) := by decide +kernel
theorem d9_41 : decode prog_36_method_3_code 41 = .ok (.iconst 0, 1) := by decide +kernel
theorem d9_42 : decode prog_36_method_3_code 42 = .ok (.istore_n 3, 1) := by decide +kernel
theorem d9_43 : decode prog_36_method_3_code 43 = .ok (.iload_n 3, 1) := by decide +kernel
theorem d9_44 : decode prog_36_method_3_code 44 = .ok (.iload_n 2, 1) := by decide +kernel
theorem d9_45 : decode prog_36_method_3_code 45 = .ok (.if_icmp .ge 37, 3) := by decide +kernel
theorem d9_48 : decode prog_36_method_3_code 48 = .ok (.aload_n 0, 1) := by decide +kernel
theorem d9_49 : decode prog_36_method_3_code 49 = .ok (.iload_n 3, 1) := by decide +kernel
theorem d9_50 : decode prog_36_method_3_code 50 = .ok (.invokevirtual 39, 3) := by decide +kernel
theorem d9_53 : decode prog_36_method_3_code 53 = .ok (.invokestatic 43, 3) := by decide +kernel
theorem d9_56 : decode prog_36_method_3_code 56 = .ok (.ifCond .ne 20, 3) := by decide +kernel
theorem d9_76 : decode prog_36_method_3_code 76 = .ok (.iinc 3 1, 3) := by decide +kernel
theorem d9_79 : decode prog_36_method_3_code 79 = .ok (.goto (-36), 3) := by decide +kernel
theorem d9_82 : decode prog_36_method_3_code 82 = .ok (.aload_n 0, 1) := by decide +kernel
theorem d9_83 : decode prog_36_method_3_code 83 = .ok (.iconst 0, 1) := by decide +kernel
theorem d9_84 : decode prog_36_method_3_code 84 = .ok (.iload_n 2, 1) := by decide +kernel
theorem d9_85 : decode prog_36_method_3_code 85 = .ok (.invokevirtual 50, 3) := by decide +kernel
theorem d9_88 : decode prog_36_method_3_code 88 = .ok (.areturn, 1) := by decide +kernel
theorem pd_14 : parseMethodDescriptor "(Ljava/lang/String;)Z" = some ⟨[(.object "java/lang/String")], some .boolean⟩ := by decide +kernel
theorem pd_15 : parseMethodDescriptor "(I)C" = some ⟨[.int], some .char⟩ := by decide +kernel
theorem pd_16 : parseMethodDescriptor "(C)Z" = some ⟨[.char], some .boolean⟩ := by decide +kernel
theorem pd_17 : parseMethodDescriptor "(II)Ljava/lang/String;" = some ⟨[.int, .int], some (.object "java/lang/String")⟩ := by decide +kernel
theorem pn9 : plainName "com/example/surebit/surebit/input/HexNumber" = true := by first | (simp [plainName, overriddenIn]; done) | decide +kernel
theorem ef9_RR (m : MethodId) (x0 : Addr) (x1 : Addr) : entryFrame m #[(.ref x0), (.ref x1)] 4 = mkF m 0 #[.val (.ref x0), .val (.ref x1), .unset, .unset] [] := by first | (simp [entryFrame, mkF, argsToLocals, Value.category]; done) | rfl
set_option maxRecDepth 65536 in
set_option maxHeartbeats 40000000 in
theorem rm_dge2 (l : Launch) (Z : State) (a0 : Array Value) (hw : ∀ d ∈ tables_1, d.before a0 Z = true) (ws : List Jvm.Cond) (ar : Addr) (br : Addr) (va : Addr) (cs : Int32) (fm : Value) (vk : ClassId) (v0 : Int32) (v1 : Int32) (h0 : Heap) (n0 : Nat) (Z0 : n0 ≤ h0.size) (H0 : Exa Z h0 ar "java/lang/String") (H1 : Fld Z h0 ar "java/lang/String" "value" "[B" (.ref va)) (H2 : Fld Z h0 ar "java/lang/String" "coder" "B" (.int 0)) (H3 : Arv Z h0 va vk .byte (2 : Int32) [(.int v0), (.int v1)] (.int 0)) (H4 : Sta Z h0 "java/lang/String" "COMPACT_STRINGS" "Z" (.int cs)) (H5 : Sta Z h0 "jdk/internal/util/Preconditions" "SIOOBE_FORMATTER" "Ljava/util/function/BiFunction;" fm) (isr_fm : fm.isRef = true) (hd0 : ¬ (f_ihd (nar .char (nar .char ((v0 &&& (255 : Int32))).toUInt32.toUInt16.toUInt32.toInt32))) = (0 : Int32)) (hv : v1 = (10 : Int32)) (hcs : ¬ cs = (0 : Int32)) :
    MetFree l Y21 (head1 (Jvm.Cond.code Y21 prog_36_method_3_code 4 (some (.object "java/lang/String")) :: ws) ({ frames := 5, cells := 4, slots := 13, locals := 80 } : Room)) (fun a U => a = #[(.ref ar), (.ref br)] ∧ Z.Warmed39 U.vm ∧ U.heap = h0 ∧ CHv Z consts_1 U.vm h0) (fun _ _ _ _ _ => True) (fun _ U o U' => ∃ v L, o = .returned v ∧ Q_dge2 Z ar br va cs fm vk v0 v1 h0 n0 v U'.heap L ∧ CHr Z consts_1 U.vm U.heap U'.vm U'.heap ∧ ReturnedEndW U o U' L ({ frames := 5, cells := 4, slots := 13, locals := 80 } : Room).cells ({ frames := 5, cells := 4, slots := 13, locals := 80 } : Room).slots) := by
  refine MetFree.of_bodySF (plainFor_of_name pn9) hisR ?_
  intro p e s m args below meth c s₁ Bd hml0 hP hK
  obtain ⟨rfl, hZ, hh, hCH⟩ := hP
  have hx := Bd.exec
  have hby := Bd.bytes
  have hret := Bd.returns
  have hlk := Bd.notSynchronized
  have hml : c.maxLocals = 4 := hml0
  have hown : s.vm.findClass "com/example/surebit/surebit/input/HexNumber" = some m.cls := findClass_of_methodNamed Bd.named
  have hnm := (name_of_methodNamed Bd.named Bd.method).1
  have hZ : Z.Warmed39 (s.setVm s.vm).vm := hZ
  have hown : (s.setVm s.vm).vm.findClass "com/example/surebit/surebit/input/HexNumber" = some m.cls := hown
  have hS0 : s.Since s.vm h0.size := (State.WarmedH.refl s).since _
  have hk0 : h0.size ≤ h0.size := Nat.le_refl _
  have CR0 : CHr Z consts_1 s.vm h0 s.vm h0 := CHr.refl hCH
  have hEL : EW Z a0 consts_1 := own_EW hw
  have wS := own_wS hw
  have X0 : Stand p l e ({ frames := 5, cells := 4, slots := 13, locals := 80 } : Room) (s.setVm s.vm) m #[(.ref ar), (.ref br)] below meth c s₁ [] 0 0 := Stand.of_body Bd
  have e0 : s₁.heap = h0 := by rw [← hh, Bd.state]; rfl
  have N0 := Fr.nil n0
  show Wp p e below (fun o s₂ => ∃ v L, o = .returned v ∧ Q_dge2 Z ar br va cs fm vk v0 v1 h0 n0 v s₂.heap L ∧ CHr Z consts_1 s.vm s.heap s₂.vm s₂.heap ∧ ReturnedEndW s o s₂ L ({ frames := 5, cells := 4, slots := 13, locals := 80 } : Room).cells ({ frames := 5, cells := 4, slots := 13, locals := 80 } : Room).slots) _
  refine Wp.back (U' := (s₁.setTop (mkF m 0 #[.val (.ref ar), .val (.ref br), .unset, .unset] []))) (fun t k => castTop (ef9_RR m ar br) k) ?_
  refine Wp.back (U' := (s₁.setTop (mkF m 1 #[.val (.ref ar), .val (.ref br), .unset, .unset] [(.ref ar)]))) (fun t k => XS.aloadN X0.here hx rfl (hb hby d9_0) rfl rfl k) ?_
  obtain ⟨a1, T1, h1, k1, b1, kc1, X1, e1, E1, hS1, hk1, hZ, hown, A1, C1, V1, K1, la1, lb1, R1, L1, Sf1, st1⟩ := ldcCH X0 hx hZ hown (ow hw 45 rfl) wS e0 hS0 hk0 hEL (List.mem_of_getElem? (i := 0) rfl) hCH (vs := [(.int 10)]) (z := (1 : Int32)) ⟨by decide, rfl⟩ (by decide) rfl (g := (mkF m 1 #[.val (.ref ar), .val (.ref br), .unset, .unset] [(.ref ar)])) rfl (hb hby d9_1) (n := 4) (by decide) (by decide) (by decide) (by decide)
  have f2_0 := Nat.le_trans Z0 E1.1
  have f2_1 := H0.ext E1
  have f2_2 := H1.ext E1
  have f2_3 := H2.ext E1
  have f2_4 := H3.ext E1
  have f2_5 := H4.ext E1
  have f2_6 := H5.ext E1
  have f2_7 := (Keep.refl h0 []).ext E1
  have f2_8 := R1.1
  have f2_9 := CR0.trans R1
  have f2_10 := hk1
  refine Wp.back (U' := (T1.setTop (mkF m 3 #[.val (.ref ar), .val (.ref br), .unset, .unset] [(.ref a1), (.ref ar)]))) st1 ?_
  obtain ⟨cq3, kq3, q3a, q3b, q3c⟩ := isOf hZ e1 f2_1
  obtain ⟨_, _, ⟨T3, L3, k3, n3⟩, -, X3, ⟨Lc3, hQ3, l3, y3, z3⟩, st3⟩ := X1.virtualBack hx (y := Y14) (z := Y14) hown (mvT hZ (ow hw 46 rfl)) (mvT hZ (ow hw 47 rfl)) (notFace_of_selects (args := #[]) (mvT hZ (ow hw 49 rfl))) (mvT hZ (ow hw 49 rfl)) (mvT hZ (ow hw 48 rfl)) (by decide) (backOf (W := 0) (rm_ewe l Z a0 hw [] ar a1 va vk (2 : Int32) [(.int v0), (.int v1)] (.int 0) b1 kc1 (.int 0) v1 cs h1 n0 f2_0 f2_1 f2_2 f2_3 f2_4 A1 V1 C1 K1 f2_5 (by decide) (by decide) (by decide) rfl hv hcs) hZ (ow hw 50 rfl) (ow hw 11 rfl) (by decide) (by decide)) q3a q3c (g := (mkF m 3 #[.val (.ref ar), .val (.ref br), .unset, .unset] [(.ref a1), (.ref ar)])) rfl (by rw [hml]; rfl) (Steps.refl _) (argsL := [(.ref a1)]) (rest := []) (lenOf pd_14 rfl) rfl (Nat.le_of_eq rfl) (hb hby d9_3) (fun _ _ => ⟨rfl, e1, (by decide : 2 + 0 ≤ _), (by decide : 8 + 0 ≤ _)⟩)
  dsimp only [Pt.U, Pt.locs, Pt.cells, Pt.slots] at X3 l3 y3 z3 st3 hQ3
  subst l3 y3 z3
  obtain ⟨rfl, N3q, K3⟩ := hQ3
  have f4_0 := Nat.le_trans f2_0 K3.1
  have f4_1 := f2_1.keep K3
  have f4_2 := f2_2.keep K3 nin0
  have f4_3 := f2_3.keep K3 nin0
  have f4_4 := f2_4.keep K3 nin0
  have f4_5 := Sta_keep0 f2_5 K3
  have f4_6 := Sta_keep0 f2_6 K3
  have f4_7 := f2_7.trans K3 all0
  have f4_8 := CHv.keep K3 sf0 f2_8
  have f4_9 := f2_9.trans (CHr.keep K3 sf0 f2_8)
  have f4_10 := Nat.le_trans f2_10 K3.1
  have f4_11 := A1.keep K3
  have f4_12 := C1.keep K3 nin0
  have f4_13 := V1.keep K3 nin0
  have f4_14 := K1.keep K3 nin0
  have N3 := Fr.app N0 N3q
  refine Wp.back (U' := (T3.setTop (mkF m 6 #[.val (.ref ar), .val (.ref br), .unset, .unset] [(.int 1)]))) (fun t k => st3.trans k) ?_
  refine Wp.back (U' := (T3.setTop (mkF m 10 #[.val (.ref ar), .val (.ref br), .unset, .unset] [(.ref ar)]))) (fun t k => XS.ifNo X3.here hx rfl (hb hby d9_6) rfl ((if0 _ _).trans (feq (by decide)).1) (XS.aloadN X3.here hx rfl (hb hby d9_9) rfl rfl k)) ?_
  obtain ⟨cq5, kq5, q5a, q5b, q5c⟩ := isOf hZ rfl f4_1
  obtain ⟨_, _, ⟨T5, L5, k5, n5⟩, -, X5, ⟨Lc5, hQ5, l5, y5, z5⟩, st5⟩ := X3.virtualBack hx (y := Y9) (z := Y9) hown (mvT hZ (ow hw 70 rfl)) (mvT hZ (ow hw 52 rfl)) (notFace_of_selects (args := #[]) (mvT hZ (ow hw 54 rfl))) (mvT hZ (ow hw 54 rfl)) (mvT hZ (ow hw 53 rfl)) (by decide) (backOf (W := 0) (rm_len l Z a0 hw [] ar va vk (2 : Int32) [(.int v0), (.int v1)] (.int 0) cs T3.heap n0 f4_0 f4_1 f4_2 f4_3 f4_4 f4_5 hcs) hZ (ow hw 55 rfl) (ow hw 11 rfl) (by decide) (by decide)) q5a q5c (g := (mkF m 10 #[.val (.ref ar), .val (.ref br), .unset, .unset] [(.ref ar)])) rfl (by rw [hml]; rfl) (Steps.refl _) (argsL := []) (rest := []) (lenOf pd_6 rfl) rfl (Nat.le_of_eq rfl) (hb hby d9_10) (fun _ _ => ⟨rfl, rfl, (by decide : 2 + 0 ≤ _), (by decide : 8 + 0 ≤ _)⟩)
  dsimp only [Pt.U, Pt.locs, Pt.cells, Pt.slots] at X5 l5 y5 z5 st5 hQ5
  subst l5 y5 z5
  obtain ⟨rfl, N5q, K5⟩ := hQ5
  have f6_0 := Nat.le_trans f4_0 K5.1
  have f6_1 := f4_1.keep K5
  have f6_2 := f4_2.keep K5 nin0
  have f6_3 := f4_3.keep K5 nin0
  have f6_4 := f4_4.keep K5 nin0
  have f6_5 := Sta_keep0 f4_5 K5
  have f6_6 := Sta_keep0 f4_6 K5
  have f6_7 := f4_7.trans K5 all0
  have f6_8 := CHv.keep K5 sf0 f4_8
  have f6_9 := f4_9.trans (CHr.keep K5 sf0 f4_8)
  have f6_10 := Nat.le_trans f4_10 K5.1
  have f6_11 := f4_11.keep K5
  have f6_12 := f4_12.keep K5 nin0
  have f6_13 := f4_13.keep K5 nin0
  have f6_14 := f4_14.keep K5 nin0
  have N5 := Fr.app N3 N5q
  refine Wp.back (U' := (T5.setTop (mkF m 13 #[.val (.ref ar), .val (.ref br), .unset, .unset] [(.int 2)]))) (fun t k => st5.trans k) ?_
  refine Wp.back (U' := (T5.setTop (mkF m 49 #[.val (.ref ar), .val (.ref br), .val (.int 1), .val (.int 0)] [(.ref ar)]))) (fun t k => XT.iconstV X5.here hx rfl 1 (hb hby d9_13) (by decide) (XS.isub X5.here hx rfl (hb hby d9_14) rfl (XS.goto X5.here hx rfl (pc0 := 15) (pc' := 22) rfl (hb hby d9_15) (by decide) (by decide) (XS.istoreN X5.here hx rfl (hb hby d9_22) rfl (l' := #[.val (.ref ar), .val (.ref br), .val (.int 1), .unset]) rfl (XS.iloadN X5.here hx rfl (hb hby d9_23) rfl (XS.ifYes X5.here hx rfl (pc0 := 24) (pc' := 41) rfl (hb hby d9_24) rfl ((if0 _ _).trans (feq (by decide)).2) (by decide) (by decide) (XT.iconstV X5.here hx rfl 0 (hb hby d9_41) (by decide) (XS.istoreN X5.here hx rfl (hb hby d9_42) rfl (l' := #[.val (.ref ar), .val (.ref br), .val (.int 1), .val (.int 0)]) rfl (XS.iloadN X5.here hx rfl (hb hby d9_43) rfl (XS.iloadN X5.here hx rfl (hb hby d9_44) rfl (XS.icmpNo X5.here hx rfl (hb hby d9_45) rfl (tlt (by decide)).2.1 (XS.aloadN X5.here hx rfl (hb hby d9_48) rfl rfl k)))))))))))) ?_
  refine Wp.back (U' := (T5.setTop (mkF m 50 #[.val (.ref ar), .val (.ref br), .val (.int 1), .val (.int 0)] [(.int 0), (.ref ar)]))) (fun t k => XS.iloadN X5.here hx rfl (hb hby d9_49) rfl k) ?_
  obtain ⟨cq7, kq7, q7a, q7b, q7c⟩ := isOf hZ rfl f6_1
  obtain ⟨_, _, ⟨T7, L7, k7, n7⟩, -, X7, ⟨Lc7, hQ7, l7, y7, z7⟩, st7⟩ := X5.virtualBack hx (y := Y11) (z := Y11) hown (mvT hZ (ow hw 71 rfl)) (mvT hZ (ow hw 72 rfl)) (notFace_of_selects (args := #[]) (mvT hZ (ow hw 74 rfl))) (mvT hZ (ow hw 74 rfl)) (mvT hZ (ow hw 73 rfl)) (by decide) (backOf (W := 0) (rm_sch l Z a0 hw [] ar (0 : Int32) va cs vk (2 : Int32) [(.int v0), (.int v1)] (.int 0) v0 fm T5.heap n0 f6_0 f6_1 f6_2 f6_3 f6_4 f6_5 f6_6 isr_fm (by decide) (by decide) rfl hcs) hZ (ow hw 75 rfl) (ow hw 11 rfl) (by decide) (by decide)) q7a q7c (g := (mkF m 50 #[.val (.ref ar), .val (.ref br), .val (.int 1), .val (.int 0)] [(.int 0), (.ref ar)])) rfl (by rw [hml]; rfl) (Steps.refl _) (argsL := [(.int 0)]) (rest := []) (lenOf pd_15 rfl) rfl (Nat.le_of_eq rfl) (hb hby d9_50) (fun _ _ => ⟨rfl, rfl, (by decide : 2 + 0 ≤ _), (by decide : 8 + 0 ≤ _)⟩)
  dsimp only [Pt.U, Pt.locs, Pt.cells, Pt.slots] at X7 l7 y7 z7 st7 hQ7
  subst l7 y7 z7
  obtain ⟨rfl, N7q, K7⟩ := hQ7
  have f8_0 := Nat.le_trans f6_0 K7.1
  have f8_1 := f6_1.keep K7
  have f8_2 := f6_2.keep K7 nin0
  have f8_3 := f6_3.keep K7 nin0
  have f8_4 := f6_4.keep K7 nin0
  have f8_5 := Sta_keep0 f6_5 K7
  have f8_6 := Sta_keep0 f6_6 K7
  have f8_7 := f6_7.trans K7 all0
  have f8_8 := CHv.keep K7 sf0 f6_8
  have f8_9 := f6_9.trans (CHr.keep K7 sf0 f6_8)
  have f8_10 := Nat.le_trans f6_10 K7.1
  have f8_11 := f6_11.keep K7
  have f8_12 := f6_12.keep K7 nin0
  have f8_13 := f6_13.keep K7 nin0
  have f8_14 := f6_14.keep K7 nin0
  have N7 := Fr.app N5 N7q
  refine Wp.back (U' := (T7.setTop (mkF m 53 #[.val (.ref ar), .val (.ref br), .val (.int 1), .val (.int 0)] [(.int (nar .char (nar .char ((v0 &&& (255 : Int32))).toUInt32.toUInt16.toUInt32.toInt32)))]))) (fun t k => st7.trans k) ?_
  obtain ⟨_, _, ⟨T9, L9, k9, n9⟩, -, X9, ⟨Lc9, hQ9, l9, y9, z9⟩, st9⟩ := Jvm.LawKit.callS X7 hx (y := Y1) hown (mvT hZ (ow hw 93 rfl)) (mvT hZ (ow hw 94 rfl)) (mvT hZ (ow hw 43 rfl)) (mvT hZ (ow hw 95 rfl)) (by decide) (backOf (W := 0) (rm_f_ihd l Z a0 hw [] (nar .char (nar .char ((v0 &&& (255 : Int32))).toUInt32.toUInt16.toUInt32.toInt32)) T7.heap n0 f8_0 ) hZ (ow hw 95 rfl) (ow hw 43 rfl) (by decide) (by decide)) (g := (mkF m 53 #[.val (.ref ar), .val (.ref br), .val (.int 1), .val (.int 0)] [(.int (nar .char (nar .char ((v0 &&& (255 : Int32))).toUInt32.toUInt16.toUInt32.toInt32)))])) rfl (by rw [hml]; rfl) (argsL := [(.int (nar .char (nar .char ((v0 &&& (255 : Int32))).toUInt32.toUInt16.toUInt32.toInt32)))]) (rest := []) (lenOf pd_16 rfl) rfl (Nat.le_of_eq rfl) (hb hby d9_53) (fun _ _ => ⟨rfl, rfl, (by decide : 2 + 0 ≤ _), (by decide : 8 + 0 ≤ _)⟩)
  dsimp only [Pt.U, Pt.locs, Pt.cells, Pt.slots] at X9 l9 y9 z9 st9 hQ9
  subst l9 y9 z9
  obtain ⟨rfl, N9q, e9⟩ := hQ9
  have N9 := Fr.app N7 N9q
  refine Wp.back (U' := (T9.setTop (mkF m 56 #[.val (.ref ar), .val (.ref br), .val (.int 1), .val (.int 0)] [(.int (f_ihd (nar .char (nar .char ((v0 &&& (255 : Int32))).toUInt32.toUInt16.toUInt32.toInt32))))]))) st9 ?_
  refine Wp.back (U' := (T9.setTop (mkF m 85 #[.val (.ref ar), .val (.ref br), .val (.int 1), .val (.int 1)] [(.int 1), (.int 0), (.ref ar)]))) (fun t k => XS.ifYes X9.here hx rfl (pc0 := 56) (pc' := 76) rfl (hb hby d9_56) rfl ((if0 _ _).trans (feq hd0).2) (by decide) (by decide) (XT.iincV X9.here hx rfl 1 (hb hby d9_76) (by decide) rfl (l' := #[.val (.ref ar), .val (.ref br), .val (.int 1), .val (.int 1)]) rfl (XS.goto X9.here hx rfl (pc0 := 79) (pc' := 43) rfl (hb hby d9_79) (by decide) (by decide) (XS.iloadN X9.here hx rfl (hb hby d9_43) rfl (XS.iloadN X9.here hx rfl (hb hby d9_44) rfl (XS.icmpYes X9.here hx rfl (pc0 := 45) (pc' := 82) rfl (hb hby d9_45) rfl (flt (by decide)).2.1 (by decide) (by decide) (XS.aloadN X9.here hx rfl (hb hby d9_82) rfl rfl (XT.iconstV X9.here hx rfl 0 (hb hby d9_83) (by decide) (XS.iloadN X9.here hx rfl (hb hby d9_84) rfl k))))))))) ?_
  obtain ⟨cq10, kq10, q10a, q10b, q10c⟩ := isOf hZ e9 f8_1
  obtain ⟨_, _, ⟨T10, L10, k10, n10⟩, -, X10, ⟨Lc10, hQ10, l10, y10, z10⟩, st10⟩ := X9.virtualBack hx (y := Y20) (z := Y20) hown (mvT hZ (ow hw 96 rfl)) (mvT hZ (ow hw 97 rfl)) (notFace_of_selects (args := #[]) (mvT hZ (ow hw 99 rfl))) (mvT hZ (ow hw 99 rfl)) (mvT hZ (ow hw 98 rfl)) (by decide) (backOf (W := 0) (rm_ss2 l Z a0 hw [] ar va cs fm vk v0 v1 T7.heap n0 f8_0 f8_1 f8_2 f8_3 f8_4 f8_5 f8_6 isr_fm hcs) hZ (ow hw 100 rfl) (ow hw 11 rfl) (by decide) (by decide)) q10a q10c (g := (mkF m 85 #[.val (.ref ar), .val (.ref br), .val (.int 1), .val (.int 1)] [(.int 1), (.int 0), (.ref ar)])) rfl (by rw [hml]; rfl) (Steps.refl _) (argsL := [(.int 0), (.int 1)]) (rest := []) (lenOf pd_17 rfl) rfl (Nat.le_of_eq rfl) (hb hby d9_85) (fun _ _ => ⟨rfl, e9, (by decide : 2 + 2 ≤ _), (by decide : 8 + 5 ≤ _)⟩)
  dsimp only [Pt.U, Pt.locs, Pt.cells, Pt.slots] at X10 l10 y10 z10 st10 hQ10
  subst l10 y10 z10
  obtain ⟨b10_0, b10_1, k10_0, rfl, N10q, K10, sf10_0, sf10_1, o10_0, o10_1, o10_2, o10_3⟩ := hQ10
  have ne_ar_b10_0 : ar ≠ b10_0 := Nat.ne_of_lt (Nat.lt_of_lt_of_le f8_1.lt sf10_0)
  have ne_va_b10_0 : va ≠ b10_0 := Nat.ne_of_lt (Nat.lt_of_lt_of_le f8_4.lt sf10_0)
  have ne_a1_b10_0 : a1 ≠ b10_0 := Nat.ne_of_lt (Nat.lt_of_lt_of_le f8_11.lt sf10_0)
  have ne_b1_b10_0 : b1 ≠ b10_0 := Nat.ne_of_lt (Nat.lt_of_lt_of_le f8_14.lt sf10_0)
  have g_b10_0 : n0 ≤ b10_0 := Nat.le_trans f8_0 sf10_0
  have sz_b10_0 : h0.size ≤ b10_0 := Nat.le_trans f8_7.1 sf10_0
  have ne_ar_b10_1 : ar ≠ b10_1 := Nat.ne_of_lt (Nat.lt_of_lt_of_le f8_1.lt sf10_1)
  have ne_va_b10_1 : va ≠ b10_1 := Nat.ne_of_lt (Nat.lt_of_lt_of_le f8_4.lt sf10_1)
  have ne_a1_b10_1 : a1 ≠ b10_1 := Nat.ne_of_lt (Nat.lt_of_lt_of_le f8_11.lt sf10_1)
  have ne_b1_b10_1 : b1 ≠ b10_1 := Nat.ne_of_lt (Nat.lt_of_lt_of_le f8_14.lt sf10_1)
  have g_b10_1 : n0 ≤ b10_1 := Nat.le_trans f8_0 sf10_1
  have sz_b10_1 : h0.size ≤ b10_1 := Nat.le_trans f8_7.1 sf10_1
  have sf_b10_0 : Safe Z consts_1 T1.vm T7.heap b10_0 := Safe.new sf10_0
  have sf_b10_1 : Safe Z consts_1 T1.vm T7.heap b10_1 := Safe.new sf10_1
  have f11_0 := Nat.le_trans f8_0 K10.1
  have f11_1 := f8_1.keep K10
  have f11_2 := f8_2.keep K10 nin0
  have f11_3 := f8_3.keep K10 nin0
  have f11_4 := f8_4.keep K10 nin0
  have f11_5 := Sta_keep0 f8_5 K10
  have f11_6 := Sta_keep0 f8_6 K10
  have f11_7 := f8_7.trans K10 all0
  have f11_8 := CHv.keep K10 sf0 f8_8
  have f11_9 := f8_9.trans (CHr.keep K10 sf0 f8_8)
  have f11_10 := Nat.le_trans f8_10 K10.1
  have f11_11 := f8_11.keep K10
  have f11_12 := f8_12.keep K10 nin0
  have f11_13 := f8_13.keep K10 nin0
  have f11_14 := f8_14.keep K10 nin0
  have f11_15 := Safe.keep K10 sf0 f8_8 sf_b10_0
  have f11_16 := Safe.keep K10 sf0 f8_8 sf_b10_1
  have N10 := Fr.app N9 N10q
  refine Wp.back (U' := (T10.setTop (mkF m 88 #[.val (.ref ar), .val (.ref br), .val (.int 1), .val (.int 1)] [(.ref b10_0)]))) (fun t k => st10.trans k) ?_
  obtain ⟨fs, hr, hrun, hended, hend⟩ := X10.leaveW hS1 f11_10 (v := (some (.ref b10_0))) (fun h => by rw [hret] at h; cases h)
  refine Wp.done (retOut X10 hx hret rfl (Or.inr (Or.inr (Or.inr (Or.inr ⟨rfl, rfl, rfl⟩)))) (hb hby d9_88) hr) hrun hended ⟨_, _, rfl, ?_, ?_, hend.1, hend.2.1, hend.2.2.1, hend.2.2.2.mono (by decide) (by decide)⟩
  rotate_left
  · show CHr Z consts_1 s.vm s.heap T10.vm T10.heap
    rw [hh]
    exact f11_9.trans (CHv.at X10 hZ hEL f11_8)
  show Q_dge2 Z ar br va cs fm vk v0 v1 h0 n0 _ T10.heap _
  exact ⟨b10_0, b10_1, k10_0, rfl, N10, f11_7, sz_b10_0, sz_b10_1, o10_0, o10_1, o10_2, o10_3⟩
def Q_dge3 (Z : State) (ar : Addr) (br : Addr) (va : Addr) (cs : Int32) (fm : Value) (vk : ClassId) (v0 : Int32) (v1 : Int32) (v2 : Int32) (h0 : Heap) (n0 : Nat) (v : Option Value) (h : Heap) (L : List Loc) : Prop := ∃ fr0 : Addr, ∃ fr1 : Addr, ∃ fk0 : ClassId, v = some (.ref fr0) ∧ Fr n0 L ∧ Keep h0 h [] ∧ h0.size ≤ fr0 ∧ h0.size ≤ fr1 ∧ Exa Z h fr0 "java/lang/String" ∧ Fld Z h fr0 "java/lang/String" "value" "[B" (.ref fr1) ∧ Fld Z h fr0 "java/lang/String" "coder" "B" (.int 0) ∧ Arv Z h fr1 fk0 .byte (2 : Int32) [(.int v0), (.int v1)] (.int 0)
set_option maxRecDepth 65536 in
set_option maxHeartbeats 40000000 in
theorem rm_dge3 (l : Launch) (Z : State) (a0 : Array Value) (hw : ∀ d ∈ tables_1, d.before a0 Z = true) (ws : List Jvm.Cond) (ar : Addr) (br : Addr) (va : Addr) (cs : Int32) (fm : Value) (vk : ClassId) (v0 : Int32) (v1 : Int32) (v2 : Int32) (h0 : Heap) (n0 : Nat) (Z0 : n0 ≤ h0.size) (H0 : Exa Z h0 ar "java/lang/String") (H1 : Fld Z h0 ar "java/lang/String" "value" "[B" (.ref va)) (H2 : Fld Z h0 ar "java/lang/String" "coder" "B" (.int 0)) (H3 : Arv Z h0 va vk .byte (3 : Int32) [(.int v0), (.int v1), (.int v2)] (.int 0)) (H4 : Sta Z h0 "java/lang/String" "COMPACT_STRINGS" "Z" (.int cs)) (H5 : Sta Z h0 "jdk/internal/util/Preconditions" "SIOOBE_FORMATTER" "Ljava/util/function/BiFunction;" fm) (isr_fm : fm.isRef = true) (hd0 : ¬ (f_ihd (nar .char (nar .char ((v0 &&& (255 : Int32))).toUInt32.toUInt16.toUInt32.toInt32))) = (0 : Int32)) (hd1 : ¬ (f_ihd (nar .char (nar .char ((v1 &&& (255 : Int32))).toUInt32.toUInt16.toUInt32.toInt32))) = (0 : Int32)) (hv : v2 = (10 : Int32)) (hcs : ¬ cs = (0 : Int32)) :
    MetFree l Y21 (head1 (Jvm.Cond.code Y21 prog_36_method_3_code 4 (some (.object "java/lang/String")) :: ws) ({ frames := 5, cells := 4, slots := 14, locals := 80 } : Room)) (fun a U => a = #[(.ref ar), (.ref br)] ∧ Z.Warmed39 U.vm ∧ U.heap = h0 ∧ CHv Z consts_1 U.vm h0) (fun _ _ _ _ _ => True) (fun _ U o U' => ∃ v L, o = .returned v ∧ Q_dge3 Z ar br va cs fm vk v0 v1 v2 h0 n0 v U'.heap L ∧ CHr Z consts_1 U.vm U.heap U'.vm U'.heap ∧ ReturnedEndW U o U' L ({ frames := 5, cells := 4, slots := 14, locals := 80 } : Room).cells ({ frames := 5, cells := 4, slots := 14, locals := 80 } : Room).slots) := by
  refine MetFree.of_bodySF (plainFor_of_name pn9) hisR ?_
  intro p e s m args below meth c s₁ Bd hml0 hP hK
  obtain ⟨rfl, hZ, hh, hCH⟩ := hP
  have hx := Bd.exec
  have hby := Bd.bytes
  have hret := Bd.returns
  have hlk := Bd.notSynchronized
  have hml : c.maxLocals = 4 := hml0
  have hown : s.vm.findClass "com/example/surebit/surebit/input/HexNumber" = some m.cls := findClass_of_methodNamed Bd.named
  have hnm := (name_of_methodNamed Bd.named Bd.method).1
  have hZ : Z.Warmed39 (s.setVm s.vm).vm := hZ
  have hown : (s.setVm s.vm).vm.findClass "com/example/surebit/surebit/input/HexNumber" = some m.cls := hown
  have hS0 : s.Since s.vm h0.size := (State.WarmedH.refl s).since _
  have hk0 : h0.size ≤ h0.size := Nat.le_refl _
  have CR0 : CHr Z consts_1 s.vm h0 s.vm h0 := CHr.refl hCH
  have hEL : EW Z a0 consts_1 := own_EW hw
  have wS := own_wS hw
  have X0 : Stand p l e ({ frames := 5, cells := 4, slots := 14, locals := 80 } : Room) (s.setVm s.vm) m #[(.ref ar), (.ref br)] below meth c s₁ [] 0 0 := Stand.of_body Bd
  have e0 : s₁.heap = h0 := by rw [← hh, Bd.state]; rfl
  have N0 := Fr.nil n0
  show Wp p e below (fun o s₂ => ∃ v L, o = .returned v ∧ Q_dge3 Z ar br va cs fm vk v0 v1 v2 h0 n0 v s₂.heap L ∧ CHr Z consts_1 s.vm s.heap s₂.vm s₂.heap ∧ ReturnedEndW s o s₂ L ({ frames := 5, cells := 4, slots := 14, locals := 80 } : Room).cells ({ frames := 5, cells := 4, slots := 14, locals := 80 } : Room).slots) _
  refine Wp.back (U' := (s₁.setTop (mkF m 0 #[.val (.ref ar), .val (.ref br), .unset, .unset] []))) (fun t k => castTop (ef9_RR m ar br) k) ?_
  refine Wp.back (U' := (s₁.setTop (mkF m 1 #[.val (.ref ar), .val (.ref br), .unset, .unset] [(.ref ar)]))) (fun t k => XS.aloadN X0.here hx rfl (hb hby d9_0) rfl rfl k) ?_
  obtain ⟨a1, T1, h1, k1, b1, kc1, X1, e1, E1, hS1, hk1, hZ, hown, A1, C1, V1, K1, la1, lb1, R1, L1, Sf1, st1⟩ := ldcCH X0 hx hZ hown (ow hw 45 rfl) wS e0 hS0 hk0 hEL (List.mem_of_getElem? (i := 0) rfl) hCH (vs := [(.int 10)]) (z := (1 : Int32)) ⟨by decide, rfl⟩ (by decide) rfl (g := (mkF m 1 #[.val (.ref ar), .val (.ref br), .unset, .unset] [(.ref ar)])) rfl (hb hby d9_1) (n := 4) (by decide) (by decide) (by decide) (by decide)
  have f2_0 := Nat.le_trans Z0 E1.1
  have f2_1 := H0.ext E1
  have f2_2 := H1.ext E1
  have f2_3 := H2.ext E1
  have f2_4 := H3.ext E1
  have f2_5 := H4.ext E1
  have f2_6 := H5.ext E1
  have f2_7 := (Keep.refl h0 []).ext E1
  have f2_8 := R1.1
  have f2_9 := CR0.trans R1
  have f2_10 := hk1
  refine Wp.back (U' := (T1.setTop (mkF m 3 #[.val (.ref ar), .val (.ref br), .unset, .unset] [(.ref a1), (.ref ar)]))) st1 ?_
  obtain ⟨cq3, kq3, q3a, q3b, q3c⟩ := isOf hZ e1 f2_1
  obtain ⟨_, _, ⟨T3, L3, k3, n3⟩, -, X3, ⟨Lc3, hQ3, l3, y3, z3⟩, st3⟩ := X1.virtualBack hx (y := Y14) (z := Y14) hown (mvT hZ (ow hw 46 rfl)) (mvT hZ (ow hw 47 rfl)) (notFace_of_selects (args := #[]) (mvT hZ (ow hw 49 rfl))) (mvT hZ (ow hw 49 rfl)) (mvT hZ (ow hw 48 rfl)) (by decide) (backOf (W := 0) (rm_ewe l Z a0 hw [] ar a1 va vk (3 : Int32) [(.int v0), (.int v1), (.int v2)] (.int 0) b1 kc1 (.int 0) v2 cs h1 n0 f2_0 f2_1 f2_2 f2_3 f2_4 A1 V1 C1 K1 f2_5 (by decide) (by decide) (by decide) rfl hv hcs) hZ (ow hw 50 rfl) (ow hw 11 rfl) (by decide) (by decide)) q3a q3c (g := (mkF m 3 #[.val (.ref ar), .val (.ref br), .unset, .unset] [(.ref a1), (.ref ar)])) rfl (by rw [hml]; rfl) (Steps.refl _) (argsL := [(.ref a1)]) (rest := []) (lenOf pd_14 rfl) rfl (Nat.le_of_eq rfl) (hb hby d9_3) (fun _ _ => ⟨rfl, e1, (by decide : 2 + 0 ≤ _), (by decide : 8 + 0 ≤ _)⟩)
  dsimp only [Pt.U, Pt.locs, Pt.cells, Pt.slots] at X3 l3 y3 z3 st3 hQ3
  subst l3 y3 z3
  obtain ⟨rfl, N3q, K3⟩ := hQ3
  have f4_0 := Nat.le_trans f2_0 K3.1
  have f4_1 := f2_1.keep K3
  have f4_2 := f2_2.keep K3 nin0
  have f4_3 := f2_3.keep K3 nin0
  have f4_4 := f2_4.keep K3 nin0
  have f4_5 := Sta_keep0 f2_5 K3
  have f4_6 := Sta_keep0 f2_6 K3
  have f4_7 := f2_7.trans K3 all0
  have f4_8 := CHv.keep K3 sf0 f2_8
  have f4_9 := f2_9.trans (CHr.keep K3 sf0 f2_8)
  have f4_10 := Nat.le_trans f2_10 K3.1
  have f4_11 := A1.keep K3
  have f4_12 := C1.keep K3 nin0
  have f4_13 := V1.keep K3 nin0
  have f4_14 := K1.keep K3 nin0
  have N3 := Fr.app N0 N3q
  refine Wp.back (U' := (T3.setTop (mkF m 6 #[.val (.ref ar), .val (.ref br), .unset, .unset] [(.int 1)]))) (fun t k => st3.trans k) ?_
  refine Wp.back (U' := (T3.setTop (mkF m 10 #[.val (.ref ar), .val (.ref br), .unset, .unset] [(.ref ar)]))) (fun t k => XS.ifNo X3.here hx rfl (hb hby d9_6) rfl ((if0 _ _).trans (feq (by decide)).1) (XS.aloadN X3.here hx rfl (hb hby d9_9) rfl rfl k)) ?_
  obtain ⟨cq5, kq5, q5a, q5b, q5c⟩ := isOf hZ rfl f4_1
  obtain ⟨_, _, ⟨T5, L5, k5, n5⟩, -, X5, ⟨Lc5, hQ5, l5, y5, z5⟩, st5⟩ := X3.virtualBack hx (y := Y9) (z := Y9) hown (mvT hZ (ow hw 70 rfl)) (mvT hZ (ow hw 52 rfl)) (notFace_of_selects (args := #[]) (mvT hZ (ow hw 54 rfl))) (mvT hZ (ow hw 54 rfl)) (mvT hZ (ow hw 53 rfl)) (by decide) (backOf (W := 0) (rm_len l Z a0 hw [] ar va vk (3 : Int32) [(.int v0), (.int v1), (.int v2)] (.int 0) cs T3.heap n0 f4_0 f4_1 f4_2 f4_3 f4_4 f4_5 hcs) hZ (ow hw 55 rfl) (ow hw 11 rfl) (by decide) (by decide)) q5a q5c (g := (mkF m 10 #[.val (.ref ar), .val (.ref br), .unset, .unset] [(.ref ar)])) rfl (by rw [hml]; rfl) (Steps.refl _) (argsL := []) (rest := []) (lenOf pd_6 rfl) rfl (Nat.le_of_eq rfl) (hb hby d9_10) (fun _ _ => ⟨rfl, rfl, (by decide : 2 + 0 ≤ _), (by decide : 8 + 0 ≤ _)⟩)
  dsimp only [Pt.U, Pt.locs, Pt.cells, Pt.slots] at X5 l5 y5 z5 st5 hQ5
  subst l5 y5 z5
  obtain ⟨rfl, N5q, K5⟩ := hQ5
  have f6_0 := Nat.le_trans f4_0 K5.1
  have f6_1 := f4_1.keep K5
  have f6_2 := f4_2.keep K5 nin0
  have f6_3 := f4_3.keep K5 nin0
  have f6_4 := f4_4.keep K5 nin0
  have f6_5 := Sta_keep0 f4_5 K5
  have f6_6 := Sta_keep0 f4_6 K5
  have f6_7 := f4_7.trans K5 all0
  have f6_8 := CHv.keep K5 sf0 f4_8
  have f6_9 := f4_9.trans (CHr.keep K5 sf0 f4_8)
  have f6_10 := Nat.le_trans f4_10 K5.1
  have f6_11 := f4_11.keep K5
  have f6_12 := f4_12.keep K5 nin0
  have f6_13 := f4_13.keep K5 nin0
  have f6_14 := f4_14.keep K5 nin0
  have N5 := Fr.app N3 N5q
  refine Wp.back (U' := (T5.setTop (mkF m 13 #[.val (.ref ar), .val (.ref br), .unset, .unset] [(.int 3)]))) (fun t k => st5.trans k) ?_
  refine Wp.back (U' := (T5.setTop (mkF m 49 #[.val (.ref ar), .val (.ref br), .val (.int 2), .val (.int 0)] [(.ref ar)]))) (fun t k => XT.iconstV X5.here hx rfl 1 (hb hby d9_13) (by decide) (XS.isub X5.here hx rfl (hb hby d9_14) rfl (XS.goto X5.here hx rfl (pc0 := 15) (pc' := 22) rfl (hb hby d9_15) (by decide) (by decide) (XS.istoreN X5.here hx rfl (hb hby d9_22) rfl (l' := #[.val (.ref ar), .val (.ref br), .val (.int 2), .unset]) rfl (XS.iloadN X5.here hx rfl (hb hby d9_23) rfl (XS.ifYes X5.here hx rfl (pc0 := 24) (pc' := 41) rfl (hb hby d9_24) rfl ((if0 _ _).trans (feq (by decide)).2) (by decide) (by decide) (XT.iconstV X5.here hx rfl 0 (hb hby d9_41) (by decide) (XS.istoreN X5.here hx rfl (hb hby d9_42) rfl (l' := #[.val (.ref ar), .val (.ref br), .val (.int 2), .val (.int 0)]) rfl (XS.iloadN X5.here hx rfl (hb hby d9_43) rfl (XS.iloadN X5.here hx rfl (hb hby d9_44) rfl (XS.icmpNo X5.here hx rfl (hb hby d9_45) rfl (tlt (by decide)).2.1 (XS.aloadN X5.here hx rfl (hb hby d9_48) rfl rfl k)))))))))))) ?_
  refine Wp.back (U' := (T5.setTop (mkF m 50 #[.val (.ref ar), .val (.ref br), .val (.int 2), .val (.int 0)] [(.int 0), (.ref ar)]))) (fun t k => XS.iloadN X5.here hx rfl (hb hby d9_49) rfl k) ?_
  obtain ⟨cq7, kq7, q7a, q7b, q7c⟩ := isOf hZ rfl f6_1
  obtain ⟨_, _, ⟨T7, L7, k7, n7⟩, -, X7, ⟨Lc7, hQ7, l7, y7, z7⟩, st7⟩ := X5.virtualBack hx (y := Y11) (z := Y11) hown (mvT hZ (ow hw 71 rfl)) (mvT hZ (ow hw 72 rfl)) (notFace_of_selects (args := #[]) (mvT hZ (ow hw 74 rfl))) (mvT hZ (ow hw 74 rfl)) (mvT hZ (ow hw 73 rfl)) (by decide) (backOf (W := 0) (rm_sch l Z a0 hw [] ar (0 : Int32) va cs vk (3 : Int32) [(.int v0), (.int v1), (.int v2)] (.int 0) v0 fm T5.heap n0 f6_0 f6_1 f6_2 f6_3 f6_4 f6_5 f6_6 isr_fm (by decide) (by decide) rfl hcs) hZ (ow hw 75 rfl) (ow hw 11 rfl) (by decide) (by decide)) q7a q7c (g := (mkF m 50 #[.val (.ref ar), .val (.ref br), .val (.int 2), .val (.int 0)] [(.int 0), (.ref ar)])) rfl (by rw [hml]; rfl) (Steps.refl _) (argsL := [(.int 0)]) (rest := []) (lenOf pd_15 rfl) rfl (Nat.le_of_eq rfl) (hb hby d9_50) (fun _ _ => ⟨rfl, rfl, (by decide : 2 + 0 ≤ _), (by decide : 8 + 0 ≤ _)⟩)
  dsimp only [Pt.U, Pt.locs, Pt.cells, Pt.slots] at X7 l7 y7 z7 st7 hQ7
  subst l7 y7 z7
  obtain ⟨rfl, N7q, K7⟩ := hQ7
  have f8_0 := Nat.le_trans f6_0 K7.1
  have f8_1 := f6_1.keep K7
  have f8_2 := f6_2.keep K7 nin0
  have f8_3 := f6_3.keep K7 nin0
  have f8_4 := f6_4.keep K7 nin0
  have f8_5 := Sta_keep0 f6_5 K7
  have f8_6 := Sta_keep0 f6_6 K7
  have f8_7 := f6_7.trans K7 all0
  have f8_8 := CHv.keep K7 sf0 f6_8
  have f8_9 := f6_9.trans (CHr.keep K7 sf0 f6_8)
  have f8_10 := Nat.le_trans f6_10 K7.1
  have f8_11 := f6_11.keep K7
  have f8_12 := f6_12.keep K7 nin0
  have f8_13 := f6_13.keep K7 nin0
  have f8_14 := f6_14.keep K7 nin0
  have N7 := Fr.app N5 N7q
  refine Wp.back (U' := (T7.setTop (mkF m 53 #[.val (.ref ar), .val (.ref br), .val (.int 2), .val (.int 0)] [(.int (nar .char (nar .char ((v0 &&& (255 : Int32))).toUInt32.toUInt16.toUInt32.toInt32)))]))) (fun t k => st7.trans k) ?_
  obtain ⟨_, _, ⟨T9, L9, k9, n9⟩, -, X9, ⟨Lc9, hQ9, l9, y9, z9⟩, st9⟩ := Jvm.LawKit.callS X7 hx (y := Y1) hown (mvT hZ (ow hw 93 rfl)) (mvT hZ (ow hw 94 rfl)) (mvT hZ (ow hw 43 rfl)) (mvT hZ (ow hw 95 rfl)) (by decide) (backOf (W := 0) (rm_f_ihd l Z a0 hw [] (nar .char (nar .char ((v0 &&& (255 : Int32))).toUInt32.toUInt16.toUInt32.toInt32)) T7.heap n0 f8_0 ) hZ (ow hw 95 rfl) (ow hw 43 rfl) (by decide) (by decide)) (g := (mkF m 53 #[.val (.ref ar), .val (.ref br), .val (.int 2), .val (.int 0)] [(.int (nar .char (nar .char ((v0 &&& (255 : Int32))).toUInt32.toUInt16.toUInt32.toInt32)))])) rfl (by rw [hml]; rfl) (argsL := [(.int (nar .char (nar .char ((v0 &&& (255 : Int32))).toUInt32.toUInt16.toUInt32.toInt32)))]) (rest := []) (lenOf pd_16 rfl) rfl (Nat.le_of_eq rfl) (hb hby d9_53) (fun _ _ => ⟨rfl, rfl, (by decide : 2 + 0 ≤ _), (by decide : 8 + 0 ≤ _)⟩)
  dsimp only [Pt.U, Pt.locs, Pt.cells, Pt.slots] at X9 l9 y9 z9 st9 hQ9
  subst l9 y9 z9
  obtain ⟨rfl, N9q, e9⟩ := hQ9
  have N9 := Fr.app N7 N9q
  refine Wp.back (U' := (T9.setTop (mkF m 56 #[.val (.ref ar), .val (.ref br), .val (.int 2), .val (.int 0)] [(.int (f_ihd (nar .char (nar .char ((v0 &&& (255 : Int32))).toUInt32.toUInt16.toUInt32.toInt32))))]))) st9 ?_
  refine Wp.back (U' := (T9.setTop (mkF m 50 #[.val (.ref ar), .val (.ref br), .val (.int 2), .val (.int 1)] [(.int 1), (.ref ar)]))) (fun t k => XS.ifYes X9.here hx rfl (pc0 := 56) (pc' := 76) rfl (hb hby d9_56) rfl ((if0 _ _).trans (feq hd0).2) (by decide) (by decide) (XT.iincV X9.here hx rfl 1 (hb hby d9_76) (by decide) rfl (l' := #[.val (.ref ar), .val (.ref br), .val (.int 2), .val (.int 1)]) rfl (XS.goto X9.here hx rfl (pc0 := 79) (pc' := 43) rfl (hb hby d9_79) (by decide) (by decide) (XS.iloadN X9.here hx rfl (hb hby d9_43) rfl (XS.iloadN X9.here hx rfl (hb hby d9_44) rfl (XS.icmpNo X9.here hx rfl (hb hby d9_45) rfl (tlt (by decide)).2.1 (XS.aloadN X9.here hx rfl (hb hby d9_48) rfl rfl (XS.iloadN X9.here hx rfl (hb hby d9_49) rfl k)))))))) ?_
  obtain ⟨cq10, kq10, q10a, q10b, q10c⟩ := isOf hZ e9 f8_1
  obtain ⟨_, _, ⟨T10, L10, k10, n10⟩, -, X10, ⟨Lc10, hQ10, l10, y10, z10⟩, st10⟩ := X9.virtualBack hx (y := Y11) (z := Y11) hown (mvT hZ (ow hw 71 rfl)) (mvT hZ (ow hw 72 rfl)) (notFace_of_selects (args := #[]) (mvT hZ (ow hw 74 rfl))) (mvT hZ (ow hw 74 rfl)) (mvT hZ (ow hw 73 rfl)) (by decide) (backOf (W := 0) (rm_sch l Z a0 hw [] ar (1 : Int32) va cs vk (3 : Int32) [(.int v0), (.int v1), (.int v2)] (.int 0) v1 fm T7.heap n0 f8_0 f8_1 f8_2 f8_3 f8_4 f8_5 f8_6 isr_fm (by decide) (by decide) rfl hcs) hZ (ow hw 75 rfl) (ow hw 11 rfl) (by decide) (by decide)) q10a q10c (g := (mkF m 50 #[.val (.ref ar), .val (.ref br), .val (.int 2), .val (.int 1)] [(.int 1), (.ref ar)])) rfl (by rw [hml]; rfl) (Steps.refl _) (argsL := [(.int 1)]) (rest := []) (lenOf pd_15 rfl) rfl (Nat.le_of_eq rfl) (hb hby d9_50) (fun _ _ => ⟨rfl, e9, (by decide : 2 + 0 ≤ _), (by decide : 8 + 0 ≤ _)⟩)
  dsimp only [Pt.U, Pt.locs, Pt.cells, Pt.slots] at X10 l10 y10 z10 st10 hQ10
  subst l10 y10 z10
  obtain ⟨rfl, N10q, K10⟩ := hQ10
  have f11_0 := Nat.le_trans f8_0 K10.1
  have f11_1 := f8_1.keep K10
  have f11_2 := f8_2.keep K10 nin0
  have f11_3 := f8_3.keep K10 nin0
  have f11_4 := f8_4.keep K10 nin0
  have f11_5 := Sta_keep0 f8_5 K10
  have f11_6 := Sta_keep0 f8_6 K10
  have f11_7 := f8_7.trans K10 all0
  have f11_8 := CHv.keep K10 sf0 f8_8
  have f11_9 := f8_9.trans (CHr.keep K10 sf0 f8_8)
  have f11_10 := Nat.le_trans f8_10 K10.1
  have f11_11 := f8_11.keep K10
  have f11_12 := f8_12.keep K10 nin0
  have f11_13 := f8_13.keep K10 nin0
  have f11_14 := f8_14.keep K10 nin0
  have N10 := Fr.app N9 N10q
  refine Wp.back (U' := (T10.setTop (mkF m 53 #[.val (.ref ar), .val (.ref br), .val (.int 2), .val (.int 1)] [(.int (nar .char (nar .char ((v1 &&& (255 : Int32))).toUInt32.toUInt16.toUInt32.toInt32)))]))) (fun t k => st10.trans k) ?_
  obtain ⟨_, _, ⟨T12, L12, k12, n12⟩, -, X12, ⟨Lc12, hQ12, l12, y12, z12⟩, st12⟩ := Jvm.LawKit.callS X10 hx (y := Y1) hown (mvT hZ (ow hw 93 rfl)) (mvT hZ (ow hw 94 rfl)) (mvT hZ (ow hw 43 rfl)) (mvT hZ (ow hw 95 rfl)) (by decide) (backOf (W := 0) (rm_f_ihd l Z a0 hw [] (nar .char (nar .char ((v1 &&& (255 : Int32))).toUInt32.toUInt16.toUInt32.toInt32)) T10.heap n0 f11_0 ) hZ (ow hw 95 rfl) (ow hw 43 rfl) (by decide) (by decide)) (g := (mkF m 53 #[.val (.ref ar), .val (.ref br), .val (.int 2), .val (.int 1)] [(.int (nar .char (nar .char ((v1 &&& (255 : Int32))).toUInt32.toUInt16.toUInt32.toInt32)))])) rfl (by rw [hml]; rfl) (argsL := [(.int (nar .char (nar .char ((v1 &&& (255 : Int32))).toUInt32.toUInt16.toUInt32.toInt32)))]) (rest := []) (lenOf pd_16 rfl) rfl (Nat.le_of_eq rfl) (hb hby d9_53) (fun _ _ => ⟨rfl, rfl, (by decide : 2 + 0 ≤ _), (by decide : 8 + 0 ≤ _)⟩)
  dsimp only [Pt.U, Pt.locs, Pt.cells, Pt.slots] at X12 l12 y12 z12 st12 hQ12
  subst l12 y12 z12
  obtain ⟨rfl, N12q, e12⟩ := hQ12
  have N12 := Fr.app N10 N12q
  refine Wp.back (U' := (T12.setTop (mkF m 56 #[.val (.ref ar), .val (.ref br), .val (.int 2), .val (.int 1)] [(.int (f_ihd (nar .char (nar .char ((v1 &&& (255 : Int32))).toUInt32.toUInt16.toUInt32.toInt32))))]))) st12 ?_
  refine Wp.back (U' := (T12.setTop (mkF m 85 #[.val (.ref ar), .val (.ref br), .val (.int 2), .val (.int 2)] [(.int 2), (.int 0), (.ref ar)]))) (fun t k => XS.ifYes X12.here hx rfl (pc0 := 56) (pc' := 76) rfl (hb hby d9_56) rfl ((if0 _ _).trans (feq hd1).2) (by decide) (by decide) (XT.iincV X12.here hx rfl 1 (hb hby d9_76) (by decide) rfl (l' := #[.val (.ref ar), .val (.ref br), .val (.int 2), .val (.int 2)]) rfl (XS.goto X12.here hx rfl (pc0 := 79) (pc' := 43) rfl (hb hby d9_79) (by decide) (by decide) (XS.iloadN X12.here hx rfl (hb hby d9_43) rfl (XS.iloadN X12.here hx rfl (hb hby d9_44) rfl (XS.icmpYes X12.here hx rfl (pc0 := 45) (pc' := 82) rfl (hb hby d9_45) rfl (flt (by decide)).2.1 (by decide) (by decide) (XS.aloadN X12.here hx rfl (hb hby d9_82) rfl rfl (XT.iconstV X12.here hx rfl 0 (hb hby d9_83) (by decide) (XS.iloadN X12.here hx rfl (hb hby d9_84) rfl k))))))))) ?_
  obtain ⟨cq13, kq13, q13a, q13b, q13c⟩ := isOf hZ e12 f11_1
  obtain ⟨_, _, ⟨T13, L13, k13, n13⟩, -, X13, ⟨Lc13, hQ13, l13, y13, z13⟩, st13⟩ := X12.virtualBack hx (y := Y20) (z := Y20) hown (mvT hZ (ow hw 96 rfl)) (mvT hZ (ow hw 97 rfl)) (notFace_of_selects (args := #[]) (mvT hZ (ow hw 99 rfl))) (mvT hZ (ow hw 99 rfl)) (mvT hZ (ow hw 98 rfl)) (by decide) (backOf (W := 0) (rm_ss3 l Z a0 hw [] ar va cs fm vk v0 v1 v2 T10.heap n0 f11_0 f11_1 f11_2 f11_3 f11_4 f11_5 f11_6 isr_fm hcs) hZ (ow hw 100 rfl) (ow hw 11 rfl) (by decide) (by decide)) q13a q13c (g := (mkF m 85 #[.val (.ref ar), .val (.ref br), .val (.int 2), .val (.int 2)] [(.int 2), (.int 0), (.ref ar)])) rfl (by rw [hml]; rfl) (Steps.refl _) (argsL := [(.int 0), (.int 2)]) (rest := []) (lenOf pd_17 rfl) rfl (Nat.le_of_eq rfl) (hb hby d9_85) (fun _ _ => ⟨rfl, e12, (by decide : 2 + 2 ≤ _), (by decide : 8 + 6 ≤ _)⟩)
  dsimp only [Pt.U, Pt.locs, Pt.cells, Pt.slots] at X13 l13 y13 z13 st13 hQ13
  subst l13 y13 z13
  obtain ⟨b13_0, b13_1, k13_0, rfl, N13q, K13, sf13_0, sf13_1, o13_0, o13_1, o13_2, o13_3⟩ := hQ13
  have ne_ar_b13_0 : ar ≠ b13_0 := Nat.ne_of_lt (Nat.lt_of_lt_of_le f11_1.lt sf13_0)
  have ne_va_b13_0 : va ≠ b13_0 := Nat.ne_of_lt (Nat.lt_of_lt_of_le f11_4.lt sf13_0)
  have ne_a1_b13_0 : a1 ≠ b13_0 := Nat.ne_of_lt (Nat.lt_of_lt_of_le f11_11.lt sf13_0)
  have ne_b1_b13_0 : b1 ≠ b13_0 := Nat.ne_of_lt (Nat.lt_of_lt_of_le f11_14.lt sf13_0)
  have g_b13_0 : n0 ≤ b13_0 := Nat.le_trans f11_0 sf13_0
  have sz_b13_0 : h0.size ≤ b13_0 := Nat.le_trans f11_7.1 sf13_0
  have ne_ar_b13_1 : ar ≠ b13_1 := Nat.ne_of_lt (Nat.lt_of_lt_of_le f11_1.lt sf13_1)
  have ne_va_b13_1 : va ≠ b13_1 := Nat.ne_of_lt (Nat.lt_of_lt_of_le f11_4.lt sf13_1)
  have ne_a1_b13_1 : a1 ≠ b13_1 := Nat.ne_of_lt (Nat.lt_of_lt_of_le f11_11.lt sf13_1)
  have ne_b1_b13_1 : b1 ≠ b13_1 := Nat.ne_of_lt (Nat.lt_of_lt_of_le f11_14.lt sf13_1)
  have g_b13_1 : n0 ≤ b13_1 := Nat.le_trans f11_0 sf13_1
  have sz_b13_1 : h0.size ≤ b13_1 := Nat.le_trans f11_7.1 sf13_1
  have sf_b13_0 : Safe Z consts_1 T1.vm T10.heap b13_0 := Safe.new sf13_0
  have sf_b13_1 : Safe Z consts_1 T1.vm T10.heap b13_1 := Safe.new sf13_1
  have f14_0 := Nat.le_trans f11_0 K13.1
  have f14_1 := f11_1.keep K13
  have f14_2 := f11_2.keep K13 nin0
  have f14_3 := f11_3.keep K13 nin0
  have f14_4 := f11_4.keep K13 nin0
  have f14_5 := Sta_keep0 f11_5 K13
  have f14_6 := Sta_keep0 f11_6 K13
  have f14_7 := f11_7.trans K13 all0
  have f14_8 := CHv.keep K13 sf0 f11_8
  have f14_9 := f11_9.trans (CHr.keep K13 sf0 f11_8)
  have f14_10 := Nat.le_trans f11_10 K13.1
  have f14_11 := f11_11.keep K13
  have f14_12 := f11_12.keep K13 nin0
  have f14_13 := f11_13.keep K13 nin0
  have f14_14 := f11_14.keep K13 nin0
  have f14_15 := Safe.keep K13 sf0 f11_8 sf_b13_0
  have f14_16 := Safe.keep K13 sf0 f11_8 sf_b13_1
  have N13 := Fr.app N12 N13q
  refine Wp.back (U' := (T13.setTop (mkF m 88 #[.val (.ref ar), .val (.ref br), .val (.int 2), .val (.int 2)] [(.ref b13_0)]))) (fun t k => st13.trans k) ?_
  obtain ⟨fs, hr, hrun, hended, hend⟩ := X13.leaveW hS1 f14_10 (v := (some (.ref b13_0))) (fun h => by rw [hret] at h; cases h)
  refine Wp.done (retOut X13 hx hret rfl (Or.inr (Or.inr (Or.inr (Or.inr ⟨rfl, rfl, rfl⟩)))) (hb hby d9_88) hr) hrun hended ⟨_, _, rfl, ?_, ?_, hend.1, hend.2.1, hend.2.2.1, hend.2.2.2.mono (by decide) (by decide)⟩
  rotate_left
  · show CHr Z consts_1 s.vm s.heap T13.vm T13.heap
    rw [hh]
    exact f14_9.trans (CHv.at X13 hZ hEL f14_8)
  show Q_dge3 Z ar br va cs fm vk v0 v1 v2 h0 n0 _ T13.heap _
  exact ⟨b13_0, b13_1, k13_0, rfl, N13, f14_7, sz_b13_0, sz_b13_1, o13_0, o13_1, o13_2, o13_3⟩
def Q_dge4 (Z : State) (ar : Addr) (br : Addr) (va : Addr) (cs : Int32) (fm : Value) (vk : ClassId) (v0 : Int32) (v1 : Int32) (v2 : Int32) (v3 : Int32) (h0 : Heap) (n0 : Nat) (v : Option Value) (h : Heap) (L : List Loc) : Prop := ∃ fr0 : Addr, ∃ fr1 : Addr, ∃ fk0 : ClassId, v = some (.ref fr0) ∧ Fr n0 L ∧ Keep h0 h [] ∧ h0.size ≤ fr0 ∧ h0.size ≤ fr1 ∧ Exa Z h fr0 "java/lang/String" ∧ Fld Z h fr0 "java/lang/String" "value" "[B" (.ref fr1) ∧ Fld Z h fr0 "java/lang/String" "coder" "B" (.int 0) ∧ Arv Z h fr1 fk0 .byte (3 : Int32) [(.int v0), (.int v1), (.int v2)] (.int 0)
set_option maxRecDepth 65536 in
set_option maxHeartbeats 40000000 in
theorem rm_dge4 (l : Launch) (Z : State) (a0 : Array Value) (hw : ∀ d ∈ tables_1, d.before a0 Z = true) (ws : List Jvm.Cond) (ar : Addr) (br : Addr) (va : Addr) (cs : Int32) (fm : Value) (vk : ClassId) (v0 : Int32) (v1 : Int32) (v2 : Int32) (v3 : Int32) (h0 : Heap) (n0 : Nat) (Z0 : n0 ≤ h0.size) (H0 : Exa Z h0 ar "java/lang/String") (H1 : Fld Z h0 ar "java/lang/String" "value" "[B" (.ref va)) (H2 : Fld Z h0 ar "java/lang/String" "coder" "B" (.int 0)) (H3 : Arv Z h0 va vk .byte (4 : Int32) [(.int v0), (.int v1), (.int v2), (.int v3)] (.int 0)) (H4 : Sta Z h0 "java/lang/String" "COMPACT_STRINGS" "Z" (.int cs)) (H5 : Sta Z h0 "jdk/internal/util/Preconditions" "SIOOBE_FORMATTER" "Ljava/util/function/BiFunction;" fm) (isr_fm : fm.isRef = true) (hd0 : ¬ (f_ihd (nar .char (nar .char ((v0 &&& (255 : Int32))).toUInt32.toUInt16.toUInt32.toInt32))) = (0 : Int32)) (hd1 : ¬ (f_ihd (nar .char (nar .char ((v1 &&& (255 : Int32))).toUInt32.toUInt16.toUInt32.toInt32))) = (0 : Int32)) (hd2 : ¬ (f_ihd (nar .char (nar .char ((v2 &&& (255 : Int32))).toUInt32.toUInt16.toUInt32.toInt32))) = (0 : Int32)) (hv : v3 = (10 : Int32)) (hcs : ¬ cs = (0 : Int32)) :
    MetFree l Y21 (head1 (Jvm.Cond.code Y21 prog_36_method_3_code 4 (some (.object "java/lang/String")) :: ws) ({ frames := 5, cells := 4, slots := 15, locals := 80 } : Room)) (fun a U => a = #[(.ref ar), (.ref br)] ∧ Z.Warmed39 U.vm ∧ U.heap = h0 ∧ CHv Z consts_1 U.vm h0) (fun _ _ _ _ _ => True) (fun _ U o U' => ∃ v L, o = .returned v ∧ Q_dge4 Z ar br va cs fm vk v0 v1 v2 v3 h0 n0 v U'.heap L ∧ CHr Z consts_1 U.vm U.heap U'.vm U'.heap ∧ ReturnedEndW U o U' L ({ frames := 5, cells := 4, slots := 15, locals := 80 } : Room).cells ({ frames := 5, cells := 4, slots := 15, locals := 80 } : Room).slots) := by
  refine MetFree.of_bodySF (plainFor_of_name pn9) hisR ?_
  intro p e s m args below meth c s₁ Bd hml0 hP hK
  obtain ⟨rfl, hZ, hh, hCH⟩ := hP
  have hx := Bd.exec
  have hby := Bd.bytes
  have hret := Bd.returns
  have hlk := Bd.notSynchronized
  have hml : c.maxLocals = 4 := hml0
  have hown : s.vm.findClass "com/example/surebit/surebit/input/HexNumber" = some m.cls := findClass_of_methodNamed Bd.named
  have hnm := (name_of_methodNamed Bd.named Bd.method).1
  have hZ : Z.Warmed39 (s.setVm s.vm).vm := hZ
  have hown : (s.setVm s.vm).vm.findClass "com/example/surebit/surebit/input/HexNumber" = some m.cls := hown
  have hS0 : s.Since s.vm h0.size := (State.WarmedH.refl s).since _
  have hk0 : h0.size ≤ h0.size := Nat.le_refl _
  have CR0 : CHr Z consts_1 s.vm h0 s.vm h0 := CHr.refl hCH
  have hEL : EW Z a0 consts_1 := own_EW hw
  have wS := own_wS hw
  have X0 : Stand p l e ({ frames := 5, cells := 4, slots := 15, locals := 80 } : Room) (s.setVm s.vm) m #[(.ref ar), (.ref br)] below meth c s₁ [] 0 0 := Stand.of_body Bd
  have e0 : s₁.heap = h0 := by rw [← hh, Bd.state]; rfl
  have N0 := Fr.nil n0
  show Wp p e below (fun o s₂ => ∃ v L, o = .returned v ∧ Q_dge4 Z ar br va cs fm vk v0 v1 v2 v3 h0 n0 v s₂.heap L ∧ CHr Z consts_1 s.vm s.heap s₂.vm s₂.heap ∧ ReturnedEndW s o s₂ L ({ frames := 5, cells := 4, slots := 15, locals := 80 } : Room).cells ({ frames := 5, cells := 4, slots := 15, locals := 80 } : Room).slots) _
  refine Wp.back (U' := (s₁.setTop (mkF m 0 #[.val (.ref ar), .val (.ref br), .unset, .unset] []))) (fun t k => castTop (ef9_RR m ar br) k) ?_
  refine Wp.back (U' := (s₁.setTop (mkF m 1 #[.val (.ref ar), .val (.ref br), .unset, .unset] [(.ref ar)]))) (fun t k => XS.aloadN X0.here hx rfl (hb hby d9_0) rfl rfl k) ?_
  obtain ⟨a1, T1, h1, k1, b1, kc1, X1, e1, E1, hS1, hk1, hZ, hown, A1, C1, V1, K1, la1, lb1, R1, L1, Sf1, st1⟩ := ldcCH X0 hx hZ hown (ow hw 45 rfl) wS e0 hS0 hk0 hEL (List.mem_of_getElem? (i := 0) rfl) hCH (vs := [(.int 10)]) (z := (1 : Int32)) ⟨by decide, rfl⟩ (by decide) rfl (g := (mkF m 1 #[.val (.ref ar), .val (.ref br), .unset, .unset] [(.ref ar)])) rfl (hb hby d9_1) (n := 4) (by decide) (by decide) (by decide) (by decide)
  have f2_0 := Nat.le_trans Z0 E1.1
  have f2_1 := H0.ext E1
  have f2_2 := H1.ext E1
  have f2_3 := H2.ext E1
  have f2_4 := H3.ext E1
  have f2_5 := H4.ext E1
  have f2_6 := H5.ext E1
  have f2_7 := (Keep.refl h0 []).ext E1
  have f2_8 := R1.1
  have f2_9 := CR0.trans R1
  have f2_10 := hk1
  refine Wp.back (U' := (T1.setTop (mkF m 3 #[.val (.ref ar), .val (.ref br), .unset, .unset] [(.ref a1), (.ref ar)]))) st1 ?_
  obtain ⟨cq3, kq3, q3a, q3b, q3c⟩ := isOf hZ e1 f2_1
  obtain ⟨_, _, ⟨T3, L3, k3, n3⟩, -, X3, ⟨Lc3, hQ3, l3, y3, z3⟩, st3⟩ := X1.virtualBack hx (y := Y14) (z := Y14) hown (mvT hZ (ow hw 46 rfl)) (mvT hZ (ow hw 47 rfl)) (notFace_of_selects (args := #[]) (mvT hZ (ow hw 49 rfl))) (mvT hZ (ow hw 49 rfl)) (mvT hZ (ow hw 48 rfl)) (by decide) (backOf (W := 0) (rm_ewe l Z a0 hw [] ar a1 va vk (4 : Int32) [(.int v0), (.int v1), (.int v2), (.int v3)] (.int 0) b1 kc1 (.int 0) v3 cs h1 n0 f2_0 f2_1 f2_2 f2_3 f2_4 A1 V1 C1 K1 f2_5 (by decide) (by decide) (by decide) rfl hv hcs) hZ (ow hw 50 rfl) (ow hw 11 rfl) (by decide) (by decide)) q3a q3c (g := (mkF m 3 #[.val (.ref ar), .val (.ref br), .unset, .unset] [(.ref a1), (.ref ar)])) rfl (by rw [hml]; rfl) (Steps.refl _) (argsL := [(.ref a1)]) (rest := []) (lenOf pd_14 rfl) rfl (Nat.le_of_eq rfl) (hb hby d9_3) (fun _ _ => ⟨rfl, e1, (by decide : 2 + 0 ≤ _), (by decide : 8 + 0 ≤ _)⟩)
  dsimp only [Pt.U, Pt.locs, Pt.cells, Pt.slots] at X3 l3 y3 z3 st3 hQ3
  subst l3 y3 z3
  obtain ⟨rfl, N3q, K3⟩ := hQ3
  have f4_0 := Nat.le_trans f2_0 K3.1
  have f4_1 := f2_1.keep K3
  have f4_2 := f2_2.keep K3 nin0
  have f4_3 := f2_3.keep K3 nin0
  have f4_4 := f2_4.keep K3 nin0
  have f4_5 := Sta_keep0 f2_5 K3
  have f4_6 := Sta_keep0 f2_6 K3
  have f4_7 := f2_7.trans K3 all0
  have f4_8 := CHv.keep K3 sf0 f2_8
  have f4_9 := f2_9.trans (CHr.keep K3 sf0 f2_8)
  have f4_10 := Nat.le_trans f2_10 K3.1
  have f4_11 := A1.keep K3
  have f4_12 := C1.keep K3 nin0
  have f4_13 := V1.keep K3 nin0
  have f4_14 := K1.keep K3 nin0
  have N3 := Fr.app N0 N3q
  refine Wp.back (U' := (T3.setTop (mkF m 6 #[.val (.ref ar), .val (.ref br), .unset, .unset] [(.int 1)]))) (fun t k => st3.trans k) ?_
  refine Wp.back (U' := (T3.setTop (mkF m 10 #[.val (.ref ar), .val (.ref br), .unset, .unset] [(.ref ar)]))) (fun t k => XS.ifNo X3.here hx rfl (hb hby d9_6) rfl ((if0 _ _).trans (feq (by decide)).1) (XS.aloadN X3.here hx rfl (hb hby d9_9) rfl rfl k)) ?_
  obtain ⟨cq5, kq5, q5a, q5b, q5c⟩ := isOf hZ rfl f4_1
  obtain ⟨_, _, ⟨T5, L5, k5, n5⟩, -, X5, ⟨Lc5, hQ5, l5, y5, z5⟩, st5⟩ := X3.virtualBack hx (y := Y9) (z := Y9) hown (mvT hZ (ow hw 70 rfl)) (mvT hZ (ow hw 52 rfl)) (notFace_of_selects (args := #[]) (mvT hZ (ow hw 54 rfl))) (mvT hZ (ow hw 54 rfl)) (mvT hZ (ow hw 53 rfl)) (by decide) (backOf (W := 0) (rm_len l Z a0 hw [] ar va vk (4 : Int32) [(.int v0), (.int v1), (.int v2), (.int v3)] (.int 0) cs T3.heap n0 f4_0 f4_1 f4_2 f4_3 f4_4 f4_5 hcs) hZ (ow hw 55 rfl) (ow hw 11 rfl) (by decide) (by decide)) q5a q5c (g := (mkF m 10 #[.val (.ref ar), .val (.ref br), .unset, .unset] [(.ref ar)])) rfl (by rw [hml]; rfl) (Steps.refl _) (argsL := []) (rest := []) (lenOf pd_6 rfl) rfl (Nat.le_of_eq rfl) (hb hby d9_10) (fun _ _ => ⟨rfl, rfl, (by decide : 2 + 0 ≤ _), (by decide : 8 + 0 ≤ _)⟩)
  dsimp only [Pt.U, Pt.locs, Pt.cells, Pt.slots] at X5 l5 y5 z5 st5 hQ5
  subst l5 y5 z5
  obtain ⟨rfl, N5q, K5⟩ := hQ5
  have f6_0 := Nat.le_trans f4_0 K5.1
  have f6_1 := f4_1.keep K5
  have f6_2 := f4_2.keep K5 nin0
  have f6_3 := f4_3.keep K5 nin0
  have f6_4 := f4_4.keep K5 nin0
  have f6_5 := Sta_keep0 f4_5 K5
  have f6_6 := Sta_keep0 f4_6 K5
  have f6_7 := f4_7.trans K5 all0
  have f6_8 := CHv.keep K5 sf0 f4_8
  have f6_9 := f4_9.trans (CHr.keep K5 sf0 f4_8)
  have f6_10 := Nat.le_trans f4_10 K5.1
  have f6_11 := f4_11.keep K5
  have f6_12 := f4_12.keep K5 nin0
  have f6_13 := f4_13.keep K5 nin0
  have f6_14 := f4_14.keep K5 nin0
  have N5 := Fr.app N3 N5q
  refine Wp.back (U' := (T5.setTop (mkF m 13 #[.val (.ref ar), .val (.ref br), .unset, .unset] [(.int 4)]))) (fun t k => st5.trans k) ?_
  refine Wp.back (U' := (T5.setTop (mkF m 49 #[.val (.ref ar), .val (.ref br), .val (.int 3), .val (.int 0)] [(.ref ar)]))) (fun t k => XT.iconstV X5.here hx rfl 1 (hb hby d9_13) (by decide) (XS.isub X5.here hx rfl (hb hby d9_14) rfl (XS.goto X5.here hx rfl (pc0 := 15) (pc' := 22) rfl (hb hby d9_15) (by decide) (by decide) (XS.istoreN X5.here hx rfl (hb hby d9_22) rfl (l' := #[.val (.ref ar), .val (.ref br), .val (.int 3), .unset]) rfl (XS.iloadN X5.here hx rfl (hb hby d9_23) rfl (XS.ifYes X5.here hx rfl (pc0 := 24) (pc' := 41) rfl (hb hby d9_24) rfl ((if0 _ _).trans (feq (by decide)).2) (by decide) (by decide) (XT.iconstV X5.here hx rfl 0 (hb hby d9_41) (by decide) (XS.istoreN X5.here hx rfl (hb hby d9_42) rfl (l' := #[.val (.ref ar), .val (.ref br), .val (.int 3), .val (.int 0)]) rfl (XS.iloadN X5.here hx rfl (hb hby d9_43) rfl (XS.iloadN X5.here hx rfl (hb hby d9_44) rfl (XS.icmpNo X5.here hx rfl (hb hby d9_45) rfl (tlt (by decide)).2.1 (XS.aloadN X5.here hx rfl (hb hby d9_48) rfl rfl k)))))))))))) ?_
  refine Wp.back (U' := (T5.setTop (mkF m 50 #[.val (.ref ar), .val (.ref br), .val (.int 3), .val (.int 0)] [(.int 0), (.ref ar)]))) (fun t k => XS.iloadN X5.here hx rfl (hb hby d9_49) rfl k) ?_
  obtain ⟨cq7, kq7, q7a, q7b, q7c⟩ := isOf hZ rfl f6_1
  obtain ⟨_, _, ⟨T7, L7, k7, n7⟩, -, X7, ⟨Lc7, hQ7, l7, y7, z7⟩, st7⟩ := X5.virtualBack hx (y := Y11) (z := Y11) hown (mvT hZ (ow hw 71 rfl)) (mvT hZ (ow hw 72 rfl)) (notFace_of_selects (args := #[]) (mvT hZ (ow hw 74 rfl))) (mvT hZ (ow hw 74 rfl)) (mvT hZ (ow hw 73 rfl)) (by decide) (backOf (W := 0) (rm_sch l Z a0 hw [] ar (0 : Int32) va cs vk (4 : Int32) [(.int v0), (.int v1), (.int v2), (.int v3)] (.int 0) v0 fm T5.heap n0 f6_0 f6_1 f6_2 f6_3 f6_4 f6_5 f6_6 isr_fm (by decide) (by decide) rfl hcs) hZ (ow hw 75 rfl) (ow hw 11 rfl) (by decide) (by decide)) q7a q7c (g := (mkF m 50 #[.val (.ref ar), .val (.ref br), .val (.int 3), .val (.int 0)] [(.int 0), (.ref ar)])) rfl (by rw [hml]; rfl) (Steps.refl _) (argsL := [(.int 0)]) (rest := []) (lenOf pd_15 rfl) rfl (Nat.le_of_eq rfl) (hb hby d9_50) (fun _ _ => ⟨rfl, rfl, (by decide : 2 + 0 ≤ _), (by decide : 8 + 0 ≤ _)⟩)
  dsimp only [Pt.U, Pt.locs, Pt.cells, Pt.slots] at X7 l7 y7 z7 st7 hQ7
  subst l7 y7 z7
  obtain ⟨rfl, N7q, K7⟩ := hQ7
  have f8_0 := Nat.le_trans f6_0 K7.1
  have f8_1 := f6_1.keep K7
  have f8_2 := f6_2.keep K7 nin0
  have f8_3 := f6_3.keep K7 nin0
  have f8_4 := f6_4.keep K7 nin0
  have f8_5 := Sta_keep0 f6_5 K7
  have f8_6 := Sta_keep0 f6_6 K7
  have f8_7 := f6_7.trans K7 all0
  have f8_8 := CHv.keep K7 sf0 f6_8
  have f8_9 := f6_9.trans (CHr.keep K7 sf0 f6_8)
  have f8_10 := Nat.le_trans f6_10 K7.1
  have f8_11 := f6_11.keep K7
  have f8_12 := f6_12.keep K7 nin0
  have f8_13 := f6_13.keep K7 nin0
  have f8_14 := f6_14.keep K7 nin0
  have N7 := Fr.app N5 N7q
  refine Wp.back (U' := (T7.setTop (mkF m 53 #[.val (.ref ar), .val (.ref br), .val (.int 3), .val (.int 0)] [(.int (nar .char (nar .char ((v0 &&& (255 : Int32))).toUInt32.toUInt16.toUInt32.toInt32)))]))) (fun t k => st7.trans k) ?_
  obtain ⟨_, _, ⟨T9, L9, k9, n9⟩, -, X9, ⟨Lc9, hQ9, l9, y9, z9⟩, st9⟩ := Jvm.LawKit.callS X7 hx (y := Y1) hown (mvT hZ (ow hw 93 rfl)) (mvT hZ (ow hw 94 rfl)) (mvT hZ (ow hw 43 rfl)) (mvT hZ (ow hw 95 rfl)) (by decide) (backOf (W := 0) (rm_f_ihd l Z a0 hw [] (nar .char (nar .char ((v0 &&& (255 : Int32))).toUInt32.toUInt16.toUInt32.toInt32)) T7.heap n0 f8_0 ) hZ (ow hw 95 rfl) (ow hw 43 rfl) (by decide) (by decide)) (g := (mkF m 53 #[.val (.ref ar), .val (.ref br), .val (.int 3), .val (.int 0)] [(.int (nar .char (nar .char ((v0 &&& (255 : Int32))).toUInt32.toUInt16.toUInt32.toInt32)))])) rfl (by rw [hml]; rfl) (argsL := [(.int (nar .char (nar .char ((v0 &&& (255 : Int32))).toUInt32.toUInt16.toUInt32.toInt32)))]) (rest := []) (lenOf pd_16 rfl) rfl (Nat.le_of_eq rfl) (hb hby d9_53) (fun _ _ => ⟨rfl, rfl, (by decide : 2 + 0 ≤ _), (by decide : 8 + 0 ≤ _)⟩)
  dsimp only [Pt.U, Pt.locs, Pt.cells, Pt.slots] at X9 l9 y9 z9 st9 hQ9
  subst l9 y9 z9
  obtain ⟨rfl, N9q, e9⟩ := hQ9
  have N9 := Fr.app N7 N9q
  refine Wp.back (U' := (T9.setTop (mkF m 56 #[.val (.ref ar), .val (.ref br), .val (.int 3), .val (.int 0)] [(.int (f_ihd (nar .char (nar .char ((v0 &&& (255 : Int32))).toUInt32.toUInt16.toUInt32.toInt32))))]))) st9 ?_
  refine Wp.back (U' := (T9.setTop (mkF m 50 #[.val (.ref ar), .val (.ref br), .val (.int 3), .val (.int 1)] [(.int 1), (.ref ar)]))) (fun t k => XS.ifYes X9.here hx rfl (pc0 := 56) (pc' := 76) rfl (hb hby d9_56) rfl ((if0 _ _).trans (feq hd0).2) (by decide) (by decide) (XT.iincV X9.here hx rfl 1 (hb hby d9_76) (by decide) rfl (l' := #[.val (.ref ar), .val (.ref br), .val (.int 3), .val (.int 1)]) rfl (XS.goto X9.here hx rfl (pc0 := 79) (pc' := 43) rfl (hb hby d9_79) (by decide) (by decide) (XS.iloadN X9.here hx rfl (hb hby d9_43) rfl (XS.iloadN X9.here hx rfl (hb hby d9_44) rfl (XS.icmpNo X9.here hx rfl (hb hby d9_45) rfl (tlt (by decide)).2.1 (XS.aloadN X9.here hx rfl (hb hby d9_48) rfl rfl (XS.iloadN X9.here hx rfl (hb hby d9_49) rfl k)))))))) ?_
  obtain ⟨cq10, kq10, q10a, q10b, q10c⟩ := isOf hZ e9 f8_1
  obtain ⟨_, _, ⟨T10, L10, k10, n10⟩, -, X10, ⟨Lc10, hQ10, l10, y10, z10⟩, st10⟩ := X9.virtualBack hx (y := Y11) (z := Y11) hown (mvT hZ (ow hw 71 rfl)) (mvT hZ (ow hw 72 rfl)) (notFace_of_selects (args := #[]) (mvT hZ (ow hw 74 rfl))) (mvT hZ (ow hw 74 rfl)) (mvT hZ (ow hw 73 rfl)) (by decide) (backOf (W := 0) (rm_sch l Z a0 hw [] ar (1 : Int32) va cs vk (4 : Int32) [(.int v0), (.int v1), (.int v2), (.int v3)] (.int 0) v1 fm T7.heap n0 f8_0 f8_1 f8_2 f8_3 f8_4 f8_5 f8_6 isr_fm (by decide) (by decide) rfl hcs) hZ (ow hw 75 rfl) (ow hw 11 rfl) (by decide) (by decide)) q10a q10c (g := (mkF m 50 #[.val (.ref ar), .val (.ref br), .val (.int 3), .val (.int 1)] [(.int 1), (.ref ar)])) rfl (by rw [hml]; rfl) (Steps.refl _) (argsL := [(.int 1)]) (rest := []) (lenOf pd_15 rfl) rfl (Nat.le_of_eq rfl) (hb hby d9_50) (fun _ _ => ⟨rfl, e9, (by decide : 2 + 0 ≤ _), (by decide : 8 + 0 ≤ _)⟩)
  dsimp only [Pt.U, Pt.locs, Pt.cells, Pt.slots] at X10 l10 y10 z10 st10 hQ10
  subst l10 y10 z10
  obtain ⟨rfl, N10q, K10⟩ := hQ10
  have f11_0 := Nat.le_trans f8_0 K10.1
  have f11_1 := f8_1.keep K10
  have f11_2 := f8_2.keep K10 nin0
  have f11_3 := f8_3.keep K10 nin0
  have f11_4 := f8_4.keep K10 nin0
  have f11_5 := Sta_keep0 f8_5 K10
  have f11_6 := Sta_keep0 f8_6 K10
  have f11_7 := f8_7.trans K10 all0
  have f11_8 := CHv.keep K10 sf0 f8_8
  have f11_9 := f8_9.trans (CHr.keep K10 sf0 f8_8)
  have f11_10 := Nat.le_trans f8_10 K10.1
  have f11_11 := f8_11.keep K10
  have f11_12 := f8_12.keep K10 nin0
  have f11_13 := f8_13.keep K10 nin0
  have f11_14 := f8_14.keep K10 nin0
  have N10 := Fr.app N9 N10q
  refine Wp.back (U' := (T10.setTop (mkF m 53 #[.val (.ref ar), .val (.ref br), .val (.int 3), .val (.int 1)] [(.int (nar .char (nar .char ((v1 &&& (255 : Int32))).toUInt32.toUInt16.toUInt32.toInt32)))]))) (fun t k => st10.trans k) ?_
  obtain ⟨_, _, ⟨T12, L12, k12, n12⟩, -, X12, ⟨Lc12, hQ12, l12, y12, z12⟩, st12⟩ := Jvm.LawKit.callS X10 hx (y := Y1) hown (mvT hZ (ow hw 93 rfl)) (mvT hZ (ow hw 94 rfl)) (mvT hZ (ow hw 43 rfl)) (mvT hZ (ow hw 95 rfl)) (by decide) (backOf (W := 0) (rm_f_ihd l Z a0 hw [] (nar .char (nar .char ((v1 &&& (255 : Int32))).toUInt32.toUInt16.toUInt32.toInt32)) T10.heap n0 f11_0 ) hZ (ow hw 95 rfl) (ow hw 43 rfl) (by decide) (by decide)) (g := (mkF m 53 #[.val (.ref ar), .val (.ref br), .val (.int 3), .val (.int 1)] [(.int (nar .char (nar .char ((v1 &&& (255 : Int32))).toUInt32.toUInt16.toUInt32.toInt32)))])) rfl (by rw [hml]; rfl) (argsL := [(.int (nar .char (nar .char ((v1 &&& (255 : Int32))).toUInt32.toUInt16.toUInt32.toInt32)))]) (rest := []) (lenOf pd_16 rfl) rfl (Nat.le_of_eq rfl) (hb hby d9_53) (fun _ _ => ⟨rfl, rfl, (by decide : 2 + 0 ≤ _), (by decide : 8 + 0 ≤ _)⟩)
  dsimp only [Pt.U, Pt.locs, Pt.cells, Pt.slots] at X12 l12 y12 z12 st12 hQ12
  subst l12 y12 z12
  obtain ⟨rfl, N12q, e12⟩ := hQ12
  have N12 := Fr.app N10 N12q
  refine Wp.back (U' := (T12.setTop (mkF m 56 #[.val (.ref ar), .val (.ref br), .val (.int 3), .val (.int 1)] [(.int (f_ihd (nar .char (nar .char ((v1 &&& (255 : Int32))).toUInt32.toUInt16.toUInt32.toInt32))))]))) st12 ?_
  refine Wp.back (U' := (T12.setTop (mkF m 50 #[.val (.ref ar), .val (.ref br), .val (.int 3), .val (.int 2)] [(.int 2), (.ref ar)]))) (fun t k => XS.ifYes X12.here hx rfl (pc0 := 56) (pc' := 76) rfl (hb hby d9_56) rfl ((if0 _ _).trans (feq hd1).2) (by decide) (by decide) (XT.iincV X12.here hx rfl 1 (hb hby d9_76) (by decide) rfl (l' := #[.val (.ref ar), .val (.ref br), .val (.int 3), .val (.int 2)]) rfl (XS.goto X12.here hx rfl (pc0 := 79) (pc' := 43) rfl (hb hby d9_79) (by decide) (by decide) (XS.iloadN X12.here hx rfl (hb hby d9_43) rfl (XS.iloadN X12.here hx rfl (hb hby d9_44) rfl (XS.icmpNo X12.here hx rfl (hb hby d9_45) rfl (tlt (by decide)).2.1 (XS.aloadN X12.here hx rfl (hb hby d9_48) rfl rfl (XS.iloadN X12.here hx rfl (hb hby d9_49) rfl k)))))))) ?_
  obtain ⟨cq13, kq13, q13a, q13b, q13c⟩ := isOf hZ e12 f11_1
  obtain ⟨_, _, ⟨T13, L13, k13, n13⟩, -, X13, ⟨Lc13, hQ13, l13, y13, z13⟩, st13⟩ := X12.virtualBack hx (y := Y11) (z := Y11) hown (mvT hZ (ow hw 71 rfl)) (mvT hZ (ow hw 72 rfl)) (notFace_of_selects (args := #[]) (mvT hZ (ow hw 74 rfl))) (mvT hZ (ow hw 74 rfl)) (mvT hZ (ow hw 73 rfl)) (by decide) (backOf (W := 0) (rm_sch l Z a0 hw [] ar (2 : Int32) va cs vk (4 : Int32) [(.int v0), (.int v1), (.int v2), (.int v3)] (.int 0) v2 fm T10.heap n0 f11_0 f11_1 f11_2 f11_3 f11_4 f11_5 f11_6 isr_fm (by decide) (by decide) rfl hcs) hZ (ow hw 75 rfl) (ow hw 11 rfl) (by decide) (by decide)) q13a q13c (g := (mkF m 50 #[.val (.ref ar), .val (.ref br), .val (.int 3), .val (.int 2)] [(.int 2), (.ref ar)])) rfl (by rw [hml]; rfl) (Steps.refl _) (argsL := [(.int 2)]) (rest := []) (lenOf pd_15 rfl) rfl (Nat.le_of_eq rfl) (hb hby d9_50) (fun _ _ => ⟨rfl, e12, (by decide : 2 + 0 ≤ _), (by decide : 8 + 0 ≤ _)⟩)
  dsimp only [Pt.U, Pt.locs, Pt.cells, Pt.slots] at X13 l13 y13 z13 st13 hQ13
  subst l13 y13 z13
  obtain ⟨rfl, N13q, K13⟩ := hQ13
  have f14_0 := Nat.le_trans f11_0 K13.1
  have f14_1 := f11_1.keep K13
  have f14_2 := f11_2.keep K13 nin0
  have f14_3 := f11_3.keep K13 nin0
  have f14_4 := f11_4.keep K13 nin0
  have f14_5 := Sta_keep0 f11_5 K13
  have f14_6 := Sta_keep0 f11_6 K13
  have f14_7 := f11_7.trans K13 all0
  have f14_8 := CHv.keep K13 sf0 f11_8
  have f14_9 := f11_9.trans (CHr.keep K13 sf0 f11_8)
  have f14_10 := Nat.le_trans f11_10 K13.1
  have f14_11 := f11_11.keep K13
  have f14_12 := f11_12.keep K13 nin0
  have f14_13 := f11_13.keep K13 nin0
  have f14_14 := f11_14.keep K13 nin0
  have N13 := Fr.app N12 N13q
  refine Wp.back (U' := (T13.setTop (mkF m 53 #[.val (.ref ar), .val (.ref br), .val (.int 3), .val (.int 2)] [(.int (nar .char (nar .char ((v2 &&& (255 : Int32))).toUInt32.toUInt16.toUInt32.toInt32)))]))) (fun t k => st13.trans k) ?_
  obtain ⟨_, _, ⟨T15, L15, k15, n15⟩, -, X15, ⟨Lc15, hQ15, l15, y15, z15⟩, st15⟩ := Jvm.LawKit.callS X13 hx (y := Y1) hown (mvT hZ (ow hw 93 rfl)) (mvT hZ (ow hw 94 rfl)) (mvT hZ (ow hw 43 rfl)) (mvT hZ (ow hw 95 rfl)) (by decide) (backOf (W := 0) (rm_f_ihd l Z a0 hw [] (nar .char (nar .char ((v2 &&& (255 : Int32))).toUInt32.toUInt16.toUInt32.toInt32)) T13.heap n0 f14_0 ) hZ (ow hw 95 rfl) (ow hw 43 rfl) (by decide) (by decide)) (g := (mkF m 53 #[.val (.ref ar), .val (.ref br), .val (.int 3), .val (.int 2)] [(.int (nar .char (nar .char ((v2 &&& (255 : Int32))).toUInt32.toUInt16.toUInt32.toInt32)))])) rfl (by rw [hml]; rfl) (argsL := [(.int (nar .char (nar .char ((v2 &&& (255 : Int32))).toUInt32.toUInt16.toUInt32.toInt32)))]) (rest := []) (lenOf pd_16 rfl) rfl (Nat.le_of_eq rfl) (hb hby d9_53) (fun _ _ => ⟨rfl, rfl, (by decide : 2 + 0 ≤ _), (by decide : 8 + 0 ≤ _)⟩)
  dsimp only [Pt.U, Pt.locs, Pt.cells, Pt.slots] at X15 l15 y15 z15 st15 hQ15
  subst l15 y15 z15
  obtain ⟨rfl, N15q, e15⟩ := hQ15
  have N15 := Fr.app N13 N15q
  refine Wp.back (U' := (T15.setTop (mkF m 56 #[.val (.ref ar), .val (.ref br), .val (.int 3), .val (.int 2)] [(.int (f_ihd (nar .char (nar .char ((v2 &&& (255 : Int32))).toUInt32.toUInt16.toUInt32.toInt32))))]))) st15 ?_
  refine Wp.back (U' := (T15.setTop (mkF m 85 #[.val (.ref ar), .val (.ref br), .val (.int 3), .val (.int 3)] [(.int 3), (.int 0), (.ref ar)]))) (fun t k => XS.ifYes X15.here hx rfl (pc0 := 56) (pc' := 76) rfl (hb hby d9_56) rfl ((if0 _ _).trans (feq hd2).2) (by decide) (by decide) (XT.iincV X15.here hx rfl 1 (hb hby d9_76) (by decide) rfl (l' := #[.val (.ref ar), .val (.ref br), .val (.int 3), .val (.int 3)]) rfl (XS.goto X15.here hx rfl (pc0 := 79) (pc' := 43) rfl (hb hby d9_79) (by decide) (by decide) (XS.iloadN X15.here hx rfl (hb hby d9_43) rfl (XS.iloadN X15.here hx rfl (hb hby d9_44) rfl (XS.icmpYes X15.here hx rfl (pc0 := 45) (pc' := 82) rfl (hb hby d9_45) rfl (flt (by decide)).2.1 (by decide) (by decide) (XS.aloadN X15.here hx rfl (hb hby d9_82) rfl rfl (XT.iconstV X15.here hx rfl 0 (hb hby d9_83) (by decide) (XS.iloadN X15.here hx rfl (hb hby d9_84) rfl k))))))))) ?_
  obtain ⟨cq16, kq16, q16a, q16b, q16c⟩ := isOf hZ e15 f14_1
  obtain ⟨_, _, ⟨T16, L16, k16, n16⟩, -, X16, ⟨Lc16, hQ16, l16, y16, z16⟩, st16⟩ := X15.virtualBack hx (y := Y20) (z := Y20) hown (mvT hZ (ow hw 96 rfl)) (mvT hZ (ow hw 97 rfl)) (notFace_of_selects (args := #[]) (mvT hZ (ow hw 99 rfl))) (mvT hZ (ow hw 99 rfl)) (mvT hZ (ow hw 98 rfl)) (by decide) (backOf (W := 0) (rm_ss4 l Z a0 hw [] ar va cs fm vk v0 v1 v2 v3 T13.heap n0 f14_0 f14_1 f14_2 f14_3 f14_4 f14_5 f14_6 isr_fm hcs) hZ (ow hw 100 rfl) (ow hw 11 rfl) (by decide) (by decide)) q16a q16c (g := (mkF m 85 #[.val (.ref ar), .val (.ref br), .val (.int 3), .val (.int 3)] [(.int 3), (.int 0), (.ref ar)])) rfl (by rw [hml]; rfl) (Steps.refl _) (argsL := [(.int 0), (.int 3)]) (rest := []) (lenOf pd_17 rfl) rfl (Nat.le_of_eq rfl) (hb hby d9_85) (fun _ _ => ⟨rfl, e15, (by decide : 2 + 2 ≤ _), (by decide : 8 + 7 ≤ _)⟩)
  dsimp only [Pt.U, Pt.locs, Pt.cells, Pt.slots] at X16 l16 y16 z16 st16 hQ16
  subst l16 y16 z16
  obtain ⟨b16_0, b16_1, k16_0, rfl, N16q, K16, sf16_0, sf16_1, o16_0, o16_1, o16_2, o16_3⟩ := hQ16
  have ne_ar_b16_0 : ar ≠ b16_0 := Nat.ne_of_lt (Nat.lt_of_lt_of_le f14_1.lt sf16_0)
  have ne_va_b16_0 : va ≠ b16_0 := Nat.ne_of_lt (Nat.lt_of_lt_of_le f14_4.lt sf16_0)
  have ne_a1_b16_0 : a1 ≠ b16_0 := Nat.ne_of_lt (Nat.lt_of_lt_of_le f14_11.lt sf16_0)
  have ne_b1_b16_0 : b1 ≠ b16_0 := Nat.ne_of_lt (Nat.lt_of_lt_of_le f14_14.lt sf16_0)
  have g_b16_0 : n0 ≤ b16_0 := Nat.le_trans f14_0 sf16_0
  have sz_b16_0 : h0.size ≤ b16_0 := Nat.le_trans f14_7.1 sf16_0
  have ne_ar_b16_1 : ar ≠ b16_1 := Nat.ne_of_lt (Nat.lt_of_lt_of_le f14_1.lt sf16_1)
  have ne_va_b16_1 : va ≠ b16_1 := Nat.ne_of_lt (Nat.lt_of_lt_of_le f14_4.lt sf16_1)
  have ne_a1_b16_1 : a1 ≠ b16_1 := Nat.ne_of_lt (Nat.lt_of_lt_of_le f14_11.lt sf16_1)
  have ne_b1_b16_1 : b1 ≠ b16_1 := Nat.ne_of_lt (Nat.lt_of_lt_of_le f14_14.lt sf16_1)
  have g_b16_1 : n0 ≤ b16_1 := Nat.le_trans f14_0 sf16_1
  have sz_b16_1 : h0.size ≤ b16_1 := Nat.le_trans f14_7.1 sf16_1
  have sf_b16_0 : Safe Z consts_1 T1.vm T13.heap b16_0 := Safe.new sf16_0
  have sf_b16_1 : Safe Z consts_1 T1.vm T13.heap b16_1 := Safe.new sf16_1
  have f17_0 := Nat.le_trans f14_0 K16.1
  have f17_1 := f14_1.keep K16
  have f17_2 := f14_2.keep K16 nin0
  have f17_3 := f14_3.keep K16 nin0
  have f17_4 := f14_4.keep K16 nin0
  have f17_5 := Sta_keep0 f14_5 K16
  have f17_6 := Sta_keep0 f14_6 K16
  have f17_7 := f14_7.trans K16 all0
  have f17_8 := CHv.keep K16 sf0 f14_8
  have f17_9 := f14_9.trans (CHr.keep K16 sf0 f14_8)
  have f17_10 := Nat.le_trans f14_10 K16.1
  have f17_11 := f14_11.keep K16
  have f17_12 := f14_12.keep K16 nin0
  have f17_13 := f14_13.keep K16 nin0
  have f17_14 := f14_14.keep K16 nin0
  have f17_15 := Safe.keep K16 sf0 f14_8 sf_b16_0
  have f17_16 := Safe.keep K16 sf0 f14_8 sf_b16_1
  have N16 := Fr.app N15 N16q
  refine Wp.back (U' := (T16.setTop (mkF m 88 #[.val (.ref ar), .val (.ref br), .val (.int 3), .val (.int 3)] [(.ref b16_0)]))) (fun t k => st16.trans k) ?_
  obtain ⟨fs, hr, hrun, hended, hend⟩ := X16.leaveW hS1 f17_10 (v := (some (.ref b16_0))) (fun h => by rw [hret] at h; cases h)
  refine Wp.done (retOut X16 hx hret rfl (Or.inr (Or.inr (Or.inr (Or.inr ⟨rfl, rfl, rfl⟩)))) (hb hby d9_88) hr) hrun hended ⟨_, _, rfl, ?_, ?_, hend.1, hend.2.1, hend.2.2.1, hend.2.2.2.mono (by decide) (by decide)⟩
  rotate_left
  · show CHr Z consts_1 s.vm s.heap T16.vm T16.heap
    rw [hh]
    exact f17_9.trans (CHv.at X16 hZ hEL f17_8)
  show Q_dge4 Z ar br va cs fm vk v0 v1 v2 v3 h0 n0 _ T16.heap _
  exact ⟨b16_0, b16_1, k16_0, rfl, N16, f17_7, sz_b16_0, sz_b16_1, o16_0, o16_1, o16_2, o16_3⟩
def Q_dge5 (Z : State) (ar : Addr) (br : Addr) (va : Addr) (cs : Int32) (fm : Value) (vk : ClassId) (v0 : Int32) (v1 : Int32) (v2 : Int32) (v3 : Int32) (v4 : Int32) (h0 : Heap) (n0 : Nat) (v : Option Value) (h : Heap) (L : List Loc) : Prop := ∃ fr0 : Addr, ∃ fr1 : Addr, ∃ fk0 : ClassId, v = some (.ref fr0) ∧ Fr n0 L ∧ Keep h0 h [] ∧ h0.size ≤ fr0 ∧ h0.size ≤ fr1 ∧ Exa Z h fr0 "java/lang/String" ∧ Fld Z h fr0 "java/lang/String" "value" "[B" (.ref fr1) ∧ Fld Z h fr0 "java/lang/String" "coder" "B" (.int 0) ∧ Arv Z h fr1 fk0 .byte (4 : Int32) [(.int v0), (.int v1), (.int v2), (.int v3)] (.int 0)
set_option maxRecDepth 65536 in
set_option maxHeartbeats 40000000 in
theorem rm_dge5 (l : Launch) (Z : State) (a0 : Array Value) (hw : ∀ d ∈ tables_1, d.before a0 Z = true) (ws : List Jvm.Cond) (ar : Addr) (br : Addr) (va : Addr) (cs : Int32) (fm : Value) (vk : ClassId) (v0 : Int32) (v1 : Int32) (v2 : Int32) (v3 : Int32) (v4 : Int32) (h0 : Heap) (n0 : Nat) (Z0 : n0 ≤ h0.size) (H0 : Exa Z h0 ar "java/lang/String") (H1 : Fld Z h0 ar "java/lang/String" "value" "[B" (.ref va)) (H2 : Fld Z h0 ar "java/lang/String" "coder" "B" (.int 0)) (H3 : Arv Z h0 va vk .byte (5 : Int32) [(.int v0), (.int v1), (.int v2), (.int v3), (.int v4)] (.int 0)) (H4 : Sta Z h0 "java/lang/String" "COMPACT_STRINGS" "Z" (.int cs)) (H5 : Sta Z h0 "jdk/internal/util/Preconditions" "SIOOBE_FORMATTER" "Ljava/util/function/BiFunction;" fm) (isr_fm : fm.isRef = true) (hd0 : ¬ (f_ihd (nar .char (nar .char ((v0 &&& (255 : Int32))).toUInt32.toUInt16.toUInt32.toInt32))) = (0 : Int32)) (hd1 : ¬ (f_ihd (nar .char (nar .char ((v1 &&& (255 : Int32))).toUInt32.toUInt16.toUInt32.toInt32))) = (0 : Int32)) (hd2 : ¬ (f_ihd (nar .char (nar .char ((v2 &&& (255 : Int32))).toUInt32.toUInt16.toUInt32.toInt32))) = (0 : Int32)) (hd3 : ¬ (f_ihd (nar .char (nar .char ((v3 &&& (255 : Int32))).toUInt32.toUInt16.toUInt32.toInt32))) = (0 : Int32)) (hv : v4 = (10 : Int32)) (hcs : ¬ cs = (0 : Int32)) :
    MetFree l Y21 (head1 (Jvm.Cond.code Y21 prog_36_method_3_code 4 (some (.object "java/lang/String")) :: ws) ({ frames := 5, cells := 4, slots := 16, locals := 80 } : Room)) (fun a U => a = #[(.ref ar), (.ref br)] ∧ Z.Warmed39 U.vm ∧ U.heap = h0 ∧ CHv Z consts_1 U.vm h0) (fun _ _ _ _ _ => True) (fun _ U o U' => ∃ v L, o = .returned v ∧ Q_dge5 Z ar br va cs fm vk v0 v1 v2 v3 v4 h0 n0 v U'.heap L ∧ CHr Z consts_1 U.vm U.heap U'.vm U'.heap ∧ ReturnedEndW U o U' L ({ frames := 5, cells := 4, slots := 16, locals := 80 } : Room).cells ({ frames := 5, cells := 4, slots := 16, locals := 80 } : Room).slots) := by
  refine MetFree.of_bodySF (plainFor_of_name pn9) hisR ?_
  intro p e s m args below meth c s₁ Bd hml0 hP hK
  obtain ⟨rfl, hZ, hh, hCH⟩ := hP
  have hx := Bd.exec
  have hby := Bd.bytes
  have hret := Bd.returns
  have hlk := Bd.notSynchronized
  have hml : c.maxLocals = 4 := hml0
  have hown : s.vm.findClass "com/example/surebit/surebit/input/HexNumber" = some m.cls := findClass_of_methodNamed Bd.named
  have hnm := (name_of_methodNamed Bd.named Bd.method).1
  have hZ : Z.Warmed39 (s.setVm s.vm).vm := hZ
  have hown : (s.setVm s.vm).vm.findClass "com/example/surebit/surebit/input/HexNumber" = some m.cls := hown
  have hS0 : s.Since s.vm h0.size := (State.WarmedH.refl s).since _
  have hk0 : h0.size ≤ h0.size := Nat.le_refl _
  have CR0 : CHr Z consts_1 s.vm h0 s.vm h0 := CHr.refl hCH
  have hEL : EW Z a0 consts_1 := own_EW hw
  have wS := own_wS hw
  have X0 : Stand p l e ({ frames := 5, cells := 4, slots := 16, locals := 80 } : Room) (s.setVm s.vm) m #[(.ref ar), (.ref br)] below meth c s₁ [] 0 0 := Stand.of_body Bd
  have e0 : s₁.heap = h0 := by rw [← hh, Bd.state]; rfl
  have N0 := Fr.nil n0
  show Wp p e below (fun o s₂ => ∃ v L, o = .returned v ∧ Q_dge5 Z ar br va cs fm vk v0 v1 v2 v3 v4 h0 n0 v s₂.heap L ∧ CHr Z consts_1 s.vm s.heap s₂.vm s₂.heap ∧ ReturnedEndW s o s₂ L ({ frames := 5, cells := 4, slots := 16, locals := 80 } : Room).cells ({ frames := 5, cells := 4, slots := 16, locals := 80 } : Room).slots) _
  refine Wp.back (U' := (s₁.setTop (mkF m 0 #[.val (.ref ar), .val (.ref br), .unset, .unset] []))) (fun t k => castTop (ef9_RR m ar br) k) ?_
  refine Wp.back (U' := (s₁.setTop (mkF m 1 #[.val (.ref ar), .val (.ref br), .unset, .unset] [(.ref ar)]))) (fun t k => XS.aloadN X0.here hx rfl (hb hby d9_0) rfl rfl k) ?_
  obtain ⟨a1, T1, h1, k1, b1, kc1, X1, e1, E1, hS1, hk1, hZ, hown, A1, C1, V1, K1, la1, lb1, R1, L1, Sf1, st1⟩ := ldcCH X0 hx hZ hown (ow hw 45 rfl) wS e0 hS0 hk0 hEL (List.mem_of_getElem? (i := 0) rfl) hCH (vs := [(.int 10)]) (z := (1 : Int32)) ⟨by decide, rfl⟩ (by decide) rfl (g := (mkF m 1 #[.val (.ref ar), .val (.ref br), .unset, .unset] [(.ref ar)])) rfl (hb hby d9_1) (n := 4) (by decide) (by decide) (by decide) (by decide)
  have f2_0 := Nat.le_trans Z0 E1.1
  have f2_1 := H0.ext E1
  have f2_2 := H1.ext E1
  have f2_3 := H2.ext E1
  have f2_4 := H3.ext E1
  have f2_5 := H4.ext E1
  have f2_6 := H5.ext E1
  have f2_7 := (Keep.refl h0 []).ext E1
  have f2_8 := R1.1
  have f2_9 := CR0.trans R1
  have f2_10 := hk1
  refine Wp.back (U' := (T1.setTop (mkF m 3 #[.val (.ref ar), .val (.ref br), .unset, .unset] [(.ref a1), (.ref ar)]))) st1 ?_
  obtain ⟨cq3, kq3, q3a, q3b, q3c⟩ := isOf hZ e1 f2_1
  obtain ⟨_, _, ⟨T3, L3, k3, n3⟩, -, X3, ⟨Lc3, hQ3, l3, y3, z3⟩, st3⟩ := X1.virtualBack hx (y := Y14) (z := Y14) hown (mvT hZ (ow hw 46 rfl)) (mvT hZ (ow hw 47 rfl)) (notFace_of_selects (args := #[]) (mvT hZ (ow hw 49 rfl))) (mvT hZ (ow hw 49 rfl)) (mvT hZ (ow hw 48 rfl)) (by decide) (backOf (W := 0) (rm_ewe l Z a0 hw [] ar a1 va vk (5 : Int32) [(.int v0), (.int v1), (.int v2), (.int v3), (.int v4)] (.int 0) b1 kc1 (.int 0) v4 cs h1 n0 f2_0 f2_1 f2_2 f2_3 f2_4 A1 V1 C1 K1 f2_5 (by decide) (by decide) (by decide) rfl hv hcs) hZ (ow hw 50 rfl) (ow hw 11 rfl) (by decide) (by decide)) q3a q3c (g := (mkF m 3 #[.val (.ref ar), .val (.ref br), .unset, .unset] [(.ref a1), (.ref ar)])) rfl (by rw [hml]; rfl) (Steps.refl _) (argsL := [(.ref a1)]) (rest := []) (lenOf pd_14 rfl) rfl (Nat.le_of_eq rfl) (hb hby d9_3) (fun _ _ => ⟨rfl, e1, (by decide : 2 + 0 ≤ _), (by decide : 8 + 0 ≤ _)⟩)
  dsimp only [Pt.U, Pt.locs, Pt.cells, Pt.slots] at X3 l3 y3 z3 st3 hQ3
  subst l3 y3 z3
  obtain ⟨rfl, N3q, K3⟩ := hQ3
  have f4_0 := Nat.le_trans f2_0 K3.1
  have f4_1 := f2_1.keep K3
  have f4_2 := f2_2.keep K3 nin0
  have f4_3 := f2_3.keep K3 nin0
  have f4_4 := f2_4.keep K3 nin0
  have f4_5 := Sta_keep0 f2_5 K3
  have f4_6 := Sta_keep0 f2_6 K3
  have f4_7 := f2_7.trans K3 all0
  have f4_8 := CHv.keep K3 sf0 f2_8
  have f4_9 := f2_9.trans (CHr.keep K3 sf0 f2_8)
  have f4_10 := Nat.le_trans f2_10 K3.1
  have f4_11 := A1.keep K3
  have f4_12 := C1.keep K3 nin0
  have f4_13 := V1.keep K3 nin0
  have f4_14 := K1.keep K3 nin0
  have N3 := Fr.app N0 N3q
  refine Wp.back (U' := (T3.setTop (mkF m 6 #[.val (.ref ar), .val (.ref br), .unset, .unset] [(.int 1)]))) (fun t k => st3.trans k) ?_
  refine Wp.back (U' := (T3.setTop (mkF m 10 #[.val (.ref ar), .val (.ref br), .unset, .unset] [(.ref ar)]))) (fun t k => XS.ifNo X3.here hx rfl (hb hby d9_6) rfl ((if0 _ _).trans (feq (by decide)).1) (XS.aloadN X3.here hx rfl (hb hby d9_9) rfl rfl k)) ?_
  obtain ⟨cq5, kq5, q5a, q5b, q5c⟩ := isOf hZ rfl f4_1
  obtain ⟨_, _, ⟨T5, L5, k5, n5⟩, -, X5, ⟨Lc5, hQ5, l5, y5, z5⟩, st5⟩ := X3.virtualBack hx (y := Y9) (z := Y9) hown (mvT hZ (ow hw 70 rfl)) (mvT hZ (ow hw 52 rfl)) (notFace_of_selects (args := #[]) (mvT hZ (ow hw 54 rfl))) (mvT hZ (ow hw 54 rfl)) (mvT hZ (ow hw 53 rfl)) (by decide) (backOf (W := 0) (rm_len l Z a0 hw [] ar va vk (5 : Int32) [(.int v0), (.int v1), (.int v2), (.int v3), (.int v4)] (.int 0) cs T3.heap n0 f4_0 f4_1 f4_2 f4_3 f4_4 f4_5 hcs) hZ (ow hw 55 rfl) (ow hw 11 rfl) (by decide) (by decide)) q5a q5c (g := (mkF m 10 #[.val (.ref ar), .val (.ref br), .unset, .unset] [(.ref ar)])) rfl (by rw [hml]; rfl) (Steps.refl _) (argsL := []) (rest := []) (lenOf pd_6 rfl) rfl (Nat.le_of_eq rfl) (hb hby d9_10) (fun _ _ => ⟨rfl, rfl, (by decide : 2 + 0 ≤ _), (by decide : 8 + 0 ≤ _)⟩)
  dsimp only [Pt.U, Pt.locs, Pt.cells, Pt.slots] at X5 l5 y5 z5 st5 hQ5
  subst l5 y5 z5
  obtain ⟨rfl, N5q, K5⟩ := hQ5
  have f6_0 := Nat.le_trans f4_0 K5.1
  have f6_1 := f4_1.keep K5
  have f6_2 := f4_2.keep K5 nin0
  have f6_3 := f4_3.keep K5 nin0
  have f6_4 := f4_4.keep K5 nin0
  have f6_5 := Sta_keep0 f4_5 K5
  have f6_6 := Sta_keep0 f4_6 K5
  have f6_7 := f4_7.trans K5 all0
  have f6_8 := CHv.keep K5 sf0 f4_8
  have f6_9 := f4_9.trans (CHr.keep K5 sf0 f4_8)
  have f6_10 := Nat.le_trans f4_10 K5.1
  have f6_11 := f4_11.keep K5
  have f6_12 := f4_12.keep K5 nin0
  have f6_13 := f4_13.keep K5 nin0
  have f6_14 := f4_14.keep K5 nin0
  have N5 := Fr.app N3 N5q
  refine Wp.back (U' := (T5.setTop (mkF m 13 #[.val (.ref ar), .val (.ref br), .unset, .unset] [(.int 5)]))) (fun t k => st5.trans k) ?_
  refine Wp.back (U' := (T5.setTop (mkF m 49 #[.val (.ref ar), .val (.ref br), .val (.int 4), .val (.int 0)] [(.ref ar)]))) (fun t k => XT.iconstV X5.here hx rfl 1 (hb hby d9_13) (by decide) (XS.isub X5.here hx rfl (hb hby d9_14) rfl (XS.goto X5.here hx rfl (pc0 := 15) (pc' := 22) rfl (hb hby d9_15) (by decide) (by decide) (XS.istoreN X5.here hx rfl (hb hby d9_22) rfl (l' := #[.val (.ref ar), .val (.ref br), .val (.int 4), .unset]) rfl (XS.iloadN X5.here hx rfl (hb hby d9_23) rfl (XS.ifYes X5.here hx rfl (pc0 := 24) (pc' := 41) rfl (hb hby d9_24) rfl ((if0 _ _).trans (feq (by decide)).2) (by decide) (by decide) (XT.iconstV X5.here hx rfl 0 (hb hby d9_41) (by decide) (XS.istoreN X5.here hx rfl (hb hby d9_42) rfl (l' := #[.val (.ref ar), .val (.ref br), .val (.int 4), .val (.int 0)]) rfl (XS.iloadN X5.here hx rfl (hb hby d9_43) rfl (XS.iloadN X5.here hx rfl (hb hby d9_44) rfl (XS.icmpNo X5.here hx rfl (hb hby d9_45) rfl (tlt (by decide)).2.1 (XS.aloadN X5.here hx rfl (hb hby d9_48) rfl rfl k)))))))))))) ?_
  refine Wp.back (U' := (T5.setTop (mkF m 50 #[.val (.ref ar), .val (.ref br), .val (.int 4), .val (.int 0)] [(.int 0), (.ref ar)]))) (fun t k => XS.iloadN X5.here hx rfl (hb hby d9_49) rfl k) ?_
  obtain ⟨cq7, kq7, q7a, q7b, q7c⟩ := isOf hZ rfl f6_1
  obtain ⟨_, _, ⟨T7, L7, k7, n7⟩, -, X7, ⟨Lc7, hQ7, l7, y7, z7⟩, st7⟩ := X5.virtualBack hx (y := Y11) (z := Y11) hown (mvT hZ (ow hw 71 rfl)) (mvT hZ (ow hw 72 rfl)) (notFace_of_selects (args := #[]) (mvT hZ (ow hw 74 rfl))) (mvT hZ (ow hw 74 rfl)) (mvT hZ (ow hw 73 rfl)) (by decide) (backOf (W := 0) (rm_sch l Z a0 hw [] ar (0 : Int32) va cs vk (5 : Int32) [(.int v0), (.int v1), (.int v2), (.int v3), (.int v4)] (.int 0) v0 fm T5.heap n0 f6_0 f6_1 f6_2 f6_3 f6_4 f6_5 f6_6 isr_fm (by decide) (by decide) rfl hcs) hZ (ow hw 75 rfl) (ow hw 11 rfl) (by decide) (by decide)) q7a q7c (g := (mkF m 50 #[.val (.ref ar), .val (.ref br), .val (.int 4), .val (.int 0)] [(.int 0), (.ref ar)])) rfl (by rw [hml]; rfl) (Steps.refl _) (argsL := [(.int 0)]) (rest := []) (lenOf pd_15 rfl) rfl (Nat.le_of_eq rfl) (hb hby d9_50) (fun _ _ => ⟨rfl, rfl, (by decide : 2 + 0 ≤ _), (by decide : 8 + 0 ≤ _)⟩)
  dsimp only [Pt.U, Pt.locs, Pt.cells, Pt.slots] at X7 l7 y7 z7 st7 hQ7
  subst l7 y7 z7
  obtain ⟨rfl, N7q, K7⟩ := hQ7
  have f8_0 := Nat.le_trans f6_0 K7.1
  have f8_1 := f6_1.keep K7
  have f8_2 := f6_2.keep K7 nin0
  have f8_3 := f6_3.keep K7 nin0
  have f8_4 := f6_4.keep K7 nin0
  have f8_5 := Sta_keep0 f6_5 K7
  have f8_6 := Sta_keep0 f6_6 K7
  have f8_7 := f6_7.trans K7 all0
  have f8_8 := CHv.keep K7 sf0 f6_8
  have f8_9 := f6_9.trans (CHr.keep K7 sf0 f6_8)
  have f8_10 := Nat.le_trans f6_10 K7.1
  have f8_11 := f6_11.keep K7
  have f8_12 := f6_12.keep K7 nin0
  have f8_13 := f6_13.keep K7 nin0
  have f8_14 := f6_14.keep K7 nin0
  have N7 := Fr.app N5 N7q
  refine Wp.back (U' := (T7.setTop (mkF m 53 #[.val (.ref ar), .val (.ref br), .val (.int 4), .val (.int 0)] [(.int (nar .char (nar .char ((v0 &&& (255 : Int32))).toUInt32.toUInt16.toUInt32.toInt32)))]))) (fun t k => st7.trans k) ?_
  obtain ⟨_, _, ⟨T9, L9, k9, n9⟩, -, X9, ⟨Lc9, hQ9, l9, y9, z9⟩, st9⟩ := Jvm.LawKit.callS X7 hx (y := Y1) hown (mvT hZ (ow hw 93 rfl)) (mvT hZ (ow hw 94 rfl)) (mvT hZ (ow hw 43 rfl)) (mvT hZ (ow hw 95 rfl)) (by decide) (backOf (W := 0) (rm_f_ihd l Z a0 hw [] (nar .char (nar .char ((v0 &&& (255 : Int32))).toUInt32.toUInt16.toUInt32.toInt32)) T7.heap n0 f8_0 ) hZ (ow hw 95 rfl) (ow hw 43 rfl) (by decide) (by decide)) (g := (mkF m 53 #[.val (.ref ar), .val (.ref br), .val (.int 4), .val (.int 0)] [(.int (nar .char (nar .char ((v0 &&& (255 : Int32))).toUInt32.toUInt16.toUInt32.toInt32)))])) rfl (by rw [hml]; rfl) (argsL := [(.int (nar .char (nar .char ((v0 &&& (255 : Int32))).toUInt32.toUInt16.toUInt32.toInt32)))]) (rest := []) (lenOf pd_16 rfl) rfl (Nat.le_of_eq rfl) (hb hby d9_53) (fun _ _ => ⟨rfl, rfl, (by decide : 2 + 0 ≤ _), (by decide : 8 + 0 ≤ _)⟩)
  dsimp only [Pt.U, Pt.locs, Pt.cells, Pt.slots] at X9 l9 y9 z9 st9 hQ9
  subst l9 y9 z9
  obtain ⟨rfl, N9q, e9⟩ := hQ9
  have N9 := Fr.app N7 N9q
  refine Wp.back (U' := (T9.setTop (mkF m 56 #[.val (.ref ar), .val (.ref br), .val (.int 4), .val (.int 0)] [(.int (f_ihd (nar .char (nar .char ((v0 &&& (255 : Int32))).toUInt32.toUInt16.toUInt32.toInt32))))]))) st9 ?_
  refine Wp.back (U' := (T9.setTop (mkF m 50 #[.val (.ref ar), .val (.ref br), .val (.int 4), .val (.int 1)] [(.int 1), (.ref ar)]))) (fun t k => XS.ifYes X9.here hx rfl (pc0 := 56) (pc' := 76) rfl (hb hby d9_56) rfl ((if0 _ _).trans (feq hd0).2) (by decide) (by decide) (XT.iincV X9.here hx rfl 1 (hb hby d9_76) (by decide) rfl (l' := #[.val (.ref ar), .val (.ref br), .val (.int 4), .val (.int 1)]) rfl (XS.goto X9.here hx rfl (pc0 := 79) (pc' := 43) rfl (hb hby d9_79) (by decide) (by decide) (XS.iloadN X9.here hx rfl (hb hby d9_43) rfl (XS.iloadN X9.here hx rfl (hb hby d9_44) rfl (XS.icmpNo X9.here hx rfl (hb hby d9_45) rfl (tlt (by decide)).2.1 (XS.aloadN X9.here hx rfl (hb hby d9_48) rfl rfl (XS.iloadN X9.here hx rfl (hb hby d9_49) rfl k)))))))) ?_
  obtain ⟨cq10, kq10, q10a, q10b, q10c⟩ := isOf hZ e9 f8_1
  obtain ⟨_, _, ⟨T10, L10, k10, n10⟩, -, X10, ⟨Lc10, hQ10, l10, y10, z10⟩, st10⟩ := X9.virtualBack hx (y := Y11) (z := Y11) hown (mvT hZ (ow hw 71 rfl)) (mvT hZ (ow hw 72 rfl)) (notFace_of_selects (args := #[]) (mvT hZ (ow hw 74 rfl))) (mvT hZ (ow hw 74 rfl)) (mvT hZ (ow hw 73 rfl)) (by decide) (backOf (W := 0) (rm_sch l Z a0 hw [] ar (1 : Int32) va cs vk (5 : Int32) [(.int v0), (.int v1), (.int v2), (.int v3), (.int v4)] (.int 0) v1 fm T7.heap n0 f8_0 f8_1 f8_2 f8_3 f8_4 f8_5 f8_6 isr_fm (by decide) (by decide) rfl hcs) hZ (ow hw 75 rfl) (ow hw 11 rfl) (by decide) (by decide)) q10a q10c (g := (mkF m 50 #[.val (.ref ar), .val (.ref br), .val (.int 4), .val (.int 1)] [(.int 1), (.ref ar)])) rfl (by rw [hml]; rfl) (Steps.refl _) (argsL := [(.int 1)]) (rest := []) (lenOf pd_15 rfl) rfl (Nat.le_of_eq rfl) (hb hby d9_50) (fun _ _ => ⟨rfl, e9, (by decide : 2 + 0 ≤ _), (by decide : 8 + 0 ≤ _)⟩)
  dsimp only [Pt.U, Pt.locs, Pt.cells, Pt.slots] at X10 l10 y10 z10 st10 hQ10
  subst l10 y10 z10
  obtain ⟨rfl, N10q, K10⟩ := hQ10
  have f11_0 := Nat.le_trans f8_0 K10.1
  have f11_1 := f8_1.keep K10
  have f11_2 := f8_2.keep K10 nin0
  have f11_3 := f8_3.keep K10 nin0
  have f11_4 := f8_4.keep K10 nin0
  have f11_5 := Sta_keep0 f8_5 K10
  have f11_6 := Sta_keep0 f8_6 K10
  have f11_7 := f8_7.trans K10 all0
  have f11_8 := CHv.keep K10 sf0 f8_8
  have f11_9 := f8_9.trans (CHr.keep K10 sf0 f8_8)
  have f11_10 := Nat.le_trans f8_10 K10.1
  have f11_11 := f8_11.keep K10
  have f11_12 := f8_12.keep K10 nin0
  have f11_13 := f8_13.keep K10 nin0
  have f11_14 := f8_14.keep K10 nin0
  have N10 := Fr.app N9 N10q
  refine Wp.back (U' := (T10.setTop (mkF m 53 #[.val (.ref ar), .val (.ref br), .val (.int 4), .val (.int 1)] [(.int (nar .char (nar .char ((v1 &&& (255 : Int32))).toUInt32.toUInt16.toUInt32.toInt32)))]))) (fun t k => st10.trans k) ?_
  obtain ⟨_, _, ⟨T12, L12, k12, n12⟩, -, X12, ⟨Lc12, hQ12, l12, y12, z12⟩, st12⟩ := Jvm.LawKit.callS X10 hx (y := Y1) hown (mvT hZ (ow hw 93 rfl)) (mvT hZ (ow hw 94 rfl)) (mvT hZ (ow hw 43 rfl)) (mvT hZ (ow hw 95 rfl)) (by decide) (backOf (W := 0) (rm_f_ihd l Z a0 hw [] (nar .char (nar .char ((v1 &&& (255 : Int32))).toUInt32.toUInt16.toUInt32.toInt32)) T10.heap n0 f11_0 ) hZ (ow hw 95 rfl) (ow hw 43 rfl) (by decide) (by decide)) (g := (mkF m 53 #[.val (.ref ar), .val (.ref br), .val (.int 4), .val (.int 1)] [(.int (nar .char (nar .char ((v1 &&& (255 : Int32))).toUInt32.toUInt16.toUInt32.toInt32)))])) rfl (by rw [hml]; rfl) (argsL := [(.int (nar .char (nar .char ((v1 &&& (255 : Int32))).toUInt32.toUInt16.toUInt32.toInt32)))]) (rest := []) (lenOf pd_16 rfl) rfl (Nat.le_of_eq rfl) (hb hby d9_53) (fun _ _ => ⟨rfl, rfl, (by decide : 2 + 0 ≤ _), (by decide : 8 + 0 ≤ _)⟩)
  dsimp only [Pt.U, Pt.locs, Pt.cells, Pt.slots] at X12 l12 y12 z12 st12 hQ12
  subst l12 y12 z12
  obtain ⟨rfl, N12q, e12⟩ := hQ12
  have N12 := Fr.app N10 N12q
  refine Wp.back (U' := (T12.setTop (mkF m 56 #[.val (.ref ar), .val (.ref br), .val (.int 4), .val (.int 1)] [(.int (f_ihd (nar .char (nar .char ((v1 &&& (255 : Int32))).toUInt32.toUInt16.toUInt32.toInt32))))]))) st12 ?_
  refine Wp.back (U' := (T12.setTop (mkF m 50 #[.val (.ref ar), .val (.ref br), .val (.int 4), .val (.int 2)] [(.int 2), (.ref ar)]))) (fun t k => XS.ifYes X12.here hx rfl (pc0 := 56) (pc' := 76) rfl (hb hby d9_56) rfl ((if0 _ _).trans (feq hd1).2) (by decide) (by decide) (XT.iincV X12.here hx rfl 1 (hb hby d9_76) (by decide) rfl (l' := #[.val (.ref ar), .val (.ref br), .val (.int 4), .val (.int 2)]) rfl (XS.goto X12.here hx rfl (pc0 := 79) (pc' := 43) rfl (hb hby d9_79) (by decide) (by decide) (XS.iloadN X12.here hx rfl (hb hby d9_43) rfl (XS.iloadN X12.here hx rfl (hb hby d9_44) rfl (XS.icmpNo X12.here hx rfl (hb hby d9_45) rfl (tlt (by decide)).2.1 (XS.aloadN X12.here hx rfl (hb hby d9_48) rfl rfl (XS.iloadN X12.here hx rfl (hb hby d9_49) rfl k)))))))) ?_
  obtain ⟨cq13, kq13, q13a, q13b, q13c⟩ := isOf hZ e12 f11_1
  obtain ⟨_, _, ⟨T13, L13, k13, n13⟩, -, X13, ⟨Lc13, hQ13, l13, y13, z13⟩, st13⟩ := X12.virtualBack hx (y := Y11) (z := Y11) hown (mvT hZ (ow hw 71 rfl)) (mvT hZ (ow hw 72 rfl)) (notFace_of_selects (args := #[]) (mvT hZ (ow hw 74 rfl))) (mvT hZ (ow hw 74 rfl)) (mvT hZ (ow hw 73 rfl)) (by decide) (backOf (W := 0) (rm_sch l Z a0 hw [] ar (2 : Int32) va cs vk (5 : Int32) [(.int v0), (.int v1), (.int v2), (.int v3), (.int v4)] (.int 0) v2 fm T10.heap n0 f11_0 f11_1 f11_2 f11_3 f11_4 f11_5 f11_6 isr_fm (by decide) (by decide) rfl hcs) hZ (ow hw 75 rfl) (ow hw 11 rfl) (by decide) (by decide)) q13a q13c (g := (mkF m 50 #[.val (.ref ar), .val (.ref br), .val (.int 4), .val (.int 2)] [(.int 2), (.ref ar)])) rfl (by rw [hml]; rfl) (Steps.refl _) (argsL := [(.int 2)]) (rest := []) (lenOf pd_15 rfl) rfl (Nat.le_of_eq rfl) (hb hby d9_50) (fun _ _ => ⟨rfl, e12, (by decide : 2 + 0 ≤ _), (by decide : 8 + 0 ≤ _)⟩)
  dsimp only [Pt.U, Pt.locs, Pt.cells, Pt.slots] at X13 l13 y13 z13 st13 hQ13
  subst l13 y13 z13
  obtain ⟨rfl, N13q, K13⟩ := hQ13
  have f14_0 := Nat.le_trans f11_0 K13.1
  have f14_1 := f11_1.keep K13
  have f14_2 := f11_2.keep K13 nin0
  have f14_3 := f11_3.keep K13 nin0
  have f14_4 := f11_4.keep K13 nin0
  have f14_5 := Sta_keep0 f11_5 K13
  have f14_6 := Sta_keep0 f11_6 K13
  have f14_7 := f11_7.trans K13 all0
  have f14_8 := CHv.keep K13 sf0 f11_8
  have f14_9 := f11_9.trans (CHr.keep K13 sf0 f11_8)
  have f14_10 := Nat.le_trans f11_10 K13.1
  have f14_11 := f11_11.keep K13
  have f14_12 := f11_12.keep K13 nin0
  have f14_13 := f11_13.keep K13 nin0
  have f14_14 := f11_14.keep K13 nin0
  have N13 := Fr.app N12 N13q
  refine Wp.back (U' := (T13.setTop (mkF m 53 #[.val (.ref ar), .val (.ref br), .val (.int 4), .val (.int 2)] [(.int (nar .char (nar .char ((v2 &&& (255 : Int32))).toUInt32.toUInt16.toUInt32.toInt32)))]))) (fun t k => st13.trans k) ?_
  obtain ⟨_, _, ⟨T15, L15, k15, n15⟩, -, X15, ⟨Lc15, hQ15, l15, y15, z15⟩, st15⟩ := Jvm.LawKit.callS X13 hx (y := Y1) hown (mvT hZ (ow hw 93 rfl)) (mvT hZ (ow hw 94 rfl)) (mvT hZ (ow hw 43 rfl)) (mvT hZ (ow hw 95 rfl)) (by decide) (backOf (W := 0) (rm_f_ihd l Z a0 hw [] (nar .char (nar .char ((v2 &&& (255 : Int32))).toUInt32.toUInt16.toUInt32.toInt32)) T13.heap n0 f14_0 ) hZ (ow hw 95 rfl) (ow hw 43 rfl) (by decide) (by decide)) (g := (mkF m 53 #[.val (.ref ar), .val (.ref br), .val (.int 4), .val (.int 2)] [(.int (nar .char (nar .char ((v2 &&& (255 : Int32))).toUInt32.toUInt16.toUInt32.toInt32)))])) rfl (by rw [hml]; rfl) (argsL := [(.int (nar .char (nar .char ((v2 &&& (255 : Int32))).toUInt32.toUInt16.toUInt32.toInt32)))]) (rest := []) (lenOf pd_16 rfl) rfl (Nat.le_of_eq rfl) (hb hby d9_53) (fun _ _ => ⟨rfl, rfl, (by decide : 2 + 0 ≤ _), (by decide : 8 + 0 ≤ _)⟩)
  dsimp only [Pt.U, Pt.locs, Pt.cells, Pt.slots] at X15 l15 y15 z15 st15 hQ15
  subst l15 y15 z15
  obtain ⟨rfl, N15q, e15⟩ := hQ15
  have N15 := Fr.app N13 N15q
  refine Wp.back (U' := (T15.setTop (mkF m 56 #[.val (.ref ar), .val (.ref br), .val (.int 4), .val (.int 2)] [(.int (f_ihd (nar .char (nar .char ((v2 &&& (255 : Int32))).toUInt32.toUInt16.toUInt32.toInt32))))]))) st15 ?_
  refine Wp.back (U' := (T15.setTop (mkF m 50 #[.val (.ref ar), .val (.ref br), .val (.int 4), .val (.int 3)] [(.int 3), (.ref ar)]))) (fun t k => XS.ifYes X15.here hx rfl (pc0 := 56) (pc' := 76) rfl (hb hby d9_56) rfl ((if0 _ _).trans (feq hd2).2) (by decide) (by decide) (XT.iincV X15.here hx rfl 1 (hb hby d9_76) (by decide) rfl (l' := #[.val (.ref ar), .val (.ref br), .val (.int 4), .val (.int 3)]) rfl (XS.goto X15.here hx rfl (pc0 := 79) (pc' := 43) rfl (hb hby d9_79) (by decide) (by decide) (XS.iloadN X15.here hx rfl (hb hby d9_43) rfl (XS.iloadN X15.here hx rfl (hb hby d9_44) rfl (XS.icmpNo X15.here hx rfl (hb hby d9_45) rfl (tlt (by decide)).2.1 (XS.aloadN X15.here hx rfl (hb hby d9_48) rfl rfl (XS.iloadN X15.here hx rfl (hb hby d9_49) rfl k)))))))) ?_
  obtain ⟨cq16, kq16, q16a, q16b, q16c⟩ := isOf hZ e15 f14_1
  obtain ⟨_, _, ⟨T16, L16, k16, n16⟩, -, X16, ⟨Lc16, hQ16, l16, y16, z16⟩, st16⟩ := X15.virtualBack hx (y := Y11) (z := Y11) hown (mvT hZ (ow hw 71 rfl)) (mvT hZ (ow hw 72 rfl)) (notFace_of_selects (args := #[]) (mvT hZ (ow hw 74 rfl))) (mvT hZ (ow hw 74 rfl)) (mvT hZ (ow hw 73 rfl)) (by decide) (backOf (W := 0) (rm_sch l Z a0 hw [] ar (3 : Int32) va cs vk (5 : Int32) [(.int v0), (.int v1), (.int v2), (.int v3), (.int v4)] (.int 0) v3 fm T13.heap n0 f14_0 f14_1 f14_2 f14_3 f14_4 f14_5 f14_6 isr_fm (by decide) (by decide) rfl hcs) hZ (ow hw 75 rfl) (ow hw 11 rfl) (by decide) (by decide)) q16a q16c (g := (mkF m 50 #[.val (.ref ar), .val (.ref br), .val (.int 4), .val (.int 3)] [(.int 3), (.ref ar)])) rfl (by rw [hml]; rfl) (Steps.refl _) (argsL := [(.int 3)]) (rest := []) (lenOf pd_15 rfl) rfl (Nat.le_of_eq rfl) (hb hby d9_50) (fun _ _ => ⟨rfl, e15, (by decide : 2 + 0 ≤ _), (by decide : 8 + 0 ≤ _)⟩)
  dsimp only [Pt.U, Pt.locs, Pt.cells, Pt.slots] at X16 l16 y16 z16 st16 hQ16
  subst l16 y16 z16
  obtain ⟨rfl, N16q, K16⟩ := hQ16
  have f17_0 := Nat.le_trans f14_0 K16.1
  have f17_1 := f14_1.keep K16
  have f17_2 := f14_2.keep K16 nin0
  have f17_3 := f14_3.keep K16 nin0
  have f17_4 := f14_4.keep K16 nin0
  have f17_5 := Sta_keep0 f14_5 K16
  have f17_6 := Sta_keep0 f14_6 K16
  have f17_7 := f14_7.trans K16 all0
  have f17_8 := CHv.keep K16 sf0 f14_8
  have f17_9 := f14_9.trans (CHr.keep K16 sf0 f14_8)
  have f17_10 := Nat.le_trans f14_10 K16.1
  have f17_11 := f14_11.keep K16
  have f17_12 := f14_12.keep K16 nin0
  have f17_13 := f14_13.keep K16 nin0
  have f17_14 := f14_14.keep K16 nin0
  have N16 := Fr.app N15 N16q
  refine Wp.back (U' := (T16.setTop (mkF m 53 #[.val (.ref ar), .val (.ref br), .val (.int 4), .val (.int 3)] [(.int (nar .char (nar .char ((v3 &&& (255 : Int32))).toUInt32.toUInt16.toUInt32.toInt32)))]))) (fun t k => st16.trans k) ?_
  obtain ⟨_, _, ⟨T18, L18, k18, n18⟩, -, X18, ⟨Lc18, hQ18, l18, y18, z18⟩, st18⟩ := Jvm.LawKit.callS X16 hx (y := Y1) hown (mvT hZ (ow hw 93 rfl)) (mvT hZ (ow hw 94 rfl)) (mvT hZ (ow hw 43 rfl)) (mvT hZ (ow hw 95 rfl)) (by decide) (backOf (W := 0) (rm_f_ihd l Z a0 hw [] (nar .char (nar .char ((v3 &&& (255 : Int32))).toUInt32.toUInt16.toUInt32.toInt32)) T16.heap n0 f17_0 ) hZ (ow hw 95 rfl) (ow hw 43 rfl) (by decide) (by decide)) (g := (mkF m 53 #[.val (.ref ar), .val (.ref br), .val (.int 4), .val (.int 3)] [(.int (nar .char (nar .char ((v3 &&& (255 : Int32))).toUInt32.toUInt16.toUInt32.toInt32)))])) rfl (by rw [hml]; rfl) (argsL := [(.int (nar .char (nar .char ((v3 &&& (255 : Int32))).toUInt32.toUInt16.toUInt32.toInt32)))]) (rest := []) (lenOf pd_16 rfl) rfl (Nat.le_of_eq rfl) (hb hby d9_53) (fun _ _ => ⟨rfl, rfl, (by decide : 2 + 0 ≤ _), (by decide : 8 + 0 ≤ _)⟩)
  dsimp only [Pt.U, Pt.locs, Pt.cells, Pt.slots] at X18 l18 y18 z18 st18 hQ18
  subst l18 y18 z18
  obtain ⟨rfl, N18q, e18⟩ := hQ18
  have N18 := Fr.app N16 N18q
  refine Wp.back (U' := (T18.setTop (mkF m 56 #[.val (.ref ar), .val (.ref br), .val (.int 4), .val (.int 3)] [(.int (f_ihd (nar .char (nar .char ((v3 &&& (255 : Int32))).toUInt32.toUInt16.toUInt32.toInt32))))]))) st18 ?_
  refine Wp.back (U' := (T18.setTop (mkF m 85 #[.val (.ref ar), .val (.ref br), .val (.int 4), .val (.int 4)] [(.int 4), (.int 0), (.ref ar)]))) (fun t k => XS.ifYes X18.here hx rfl (pc0 := 56) (pc' := 76) rfl (hb hby d9_56) rfl ((if0 _ _).trans (feq hd3).2) (by decide) (by decide) (XT.iincV X18.here hx rfl 1 (hb hby d9_76) (by decide) rfl (l' := #[.val (.ref ar), .val (.ref br), .val (.int 4), .val (.int 4)]) rfl (XS.goto X18.here hx rfl (pc0 := 79) (pc' := 43) rfl (hb hby d9_79) (by decide) (by decide) (XS.iloadN X18.here hx rfl (hb hby d9_43) rfl (XS.iloadN X18.here hx rfl (hb hby d9_44) rfl (XS.icmpYes X18.here hx rfl (pc0 := 45) (pc' := 82) rfl (hb hby d9_45) rfl (flt (by decide)).2.1 (by decide) (by decide) (XS.aloadN X18.here hx rfl (hb hby d9_82) rfl rfl (XT.iconstV X18.here hx rfl 0 (hb hby d9_83) (by decide) (XS.iloadN X18.here hx rfl (hb hby d9_84) rfl k))))))))) ?_
  obtain ⟨cq19, kq19, q19a, q19b, q19c⟩ := isOf hZ e18 f17_1
  obtain ⟨_, _, ⟨T19, L19, k19, n19⟩, -, X19, ⟨Lc19, hQ19, l19, y19, z19⟩, st19⟩ := X18.virtualBack hx (y := Y20) (z := Y20) hown (mvT hZ (ow hw 96 rfl)) (mvT hZ (ow hw 97 rfl)) (notFace_of_selects (args := #[]) (mvT hZ (ow hw 99 rfl))) (mvT hZ (ow hw 99 rfl)) (mvT hZ (ow hw 98 rfl)) (by decide) (backOf (W := 0) (rm_ss5 l Z a0 hw [] ar va cs fm vk v0 v1 v2 v3 v4 T16.heap n0 f17_0 f17_1 f17_2 f17_3 f17_4 f17_5 f17_6 isr_fm hcs) hZ (ow hw 100 rfl) (ow hw 11 rfl) (by decide) (by decide)) q19a q19c (g := (mkF m 85 #[.val (.ref ar), .val (.ref br), .val (.int 4), .val (.int 4)] [(.int 4), (.int 0), (.ref ar)])) rfl (by rw [hml]; rfl) (Steps.refl _) (argsL := [(.int 0), (.int 4)]) (rest := []) (lenOf pd_17 rfl) rfl (Nat.le_of_eq rfl) (hb hby d9_85) (fun _ _ => ⟨rfl, e18, (by decide : 2 + 2 ≤ _), (by decide : 8 + 8 ≤ _)⟩)
  dsimp only [Pt.U, Pt.locs, Pt.cells, Pt.slots] at X19 l19 y19 z19 st19 hQ19
  subst l19 y19 z19
  obtain ⟨b19_0, b19_1, k19_0, rfl, N19q, K19, sf19_0, sf19_1, o19_0, o19_1, o19_2, o19_3⟩ := hQ19
  have ne_ar_b19_0 : ar ≠ b19_0 := Nat.ne_of_lt (Nat.lt_of_lt_of_le f17_1.lt sf19_0)
  have ne_va_b19_0 : va ≠ b19_0 := Nat.ne_of_lt (Nat.lt_of_lt_of_le f17_4.lt sf19_0)
  have ne_a1_b19_0 : a1 ≠ b19_0 := Nat.ne_of_lt (Nat.lt_of_lt_of_le f17_11.lt sf19_0)
  have ne_b1_b19_0 : b1 ≠ b19_0 := Nat.ne_of_lt (Nat.lt_of_lt_of_le f17_14.lt sf19_0)
  have g_b19_0 : n0 ≤ b19_0 := Nat.le_trans f17_0 sf19_0
  have sz_b19_0 : h0.size ≤ b19_0 := Nat.le_trans f17_7.1 sf19_0
  have ne_ar_b19_1 : ar ≠ b19_1 := Nat.ne_of_lt (Nat.lt_of_lt_of_le f17_1.lt sf19_1)
  have ne_va_b19_1 : va ≠ b19_1 := Nat.ne_of_lt (Nat.lt_of_lt_of_le f17_4.lt sf19_1)
  have ne_a1_b19_1 : a1 ≠ b19_1 := Nat.ne_of_lt (Nat.lt_of_lt_of_le f17_11.lt sf19_1)
  have ne_b1_b19_1 : b1 ≠ b19_1 := Nat.ne_of_lt (Nat.lt_of_lt_of_le f17_14.lt sf19_1)
  have g_b19_1 : n0 ≤ b19_1 := Nat.le_trans f17_0 sf19_1
  have sz_b19_1 : h0.size ≤ b19_1 := Nat.le_trans f17_7.1 sf19_1
  have sf_b19_0 : Safe Z consts_1 T1.vm T16.heap b19_0 := Safe.new sf19_0
  have sf_b19_1 : Safe Z consts_1 T1.vm T16.heap b19_1 := Safe.new sf19_1
  have f20_0 := Nat.le_trans f17_0 K19.1
  have f20_1 := f17_1.keep K19
  have f20_2 := f17_2.keep K19 nin0
  have f20_3 := f17_3.keep K19 nin0
  have f20_4 := f17_4.keep K19 nin0
  have f20_5 := Sta_keep0 f17_5 K19
  have f20_6 := Sta_keep0 f17_6 K19
  have f20_7 := f17_7.trans K19 all0
  have f20_8 := CHv.keep K19 sf0 f17_8
  have f20_9 := f17_9.trans (CHr.keep K19 sf0 f17_8)
  have f20_10 := Nat.le_trans f17_10 K19.1
  have f20_11 := f17_11.keep K19
  have f20_12 := f17_12.keep K19 nin0
  have f20_13 := f17_13.keep K19 nin0
  have f20_14 := f17_14.keep K19 nin0
  have f20_15 := Safe.keep K19 sf0 f17_8 sf_b19_0
  have f20_16 := Safe.keep K19 sf0 f17_8 sf_b19_1
  have N19 := Fr.app N18 N19q
  refine Wp.back (U' := (T19.setTop (mkF m 88 #[.val (.ref ar), .val (.ref br), .val (.int 4), .val (.int 4)] [(.ref b19_0)]))) (fun t k => st19.trans k) ?_
  obtain ⟨fs, hr, hrun, hended, hend⟩ := X19.leaveW hS1 f20_10 (v := (some (.ref b19_0))) (fun h => by rw [hret] at h; cases h)
  refine Wp.done (retOut X19 hx hret rfl (Or.inr (Or.inr (Or.inr (Or.inr ⟨rfl, rfl, rfl⟩)))) (hb hby d9_88) hr) hrun hended ⟨_, _, rfl, ?_, ?_, hend.1, hend.2.1, hend.2.2.1, hend.2.2.2.mono (by decide) (by decide)⟩
  rotate_left
  · show CHr Z consts_1 s.vm s.heap T19.vm T19.heap
    rw [hh]
    exact f20_9.trans (CHv.at X19 hZ hEL f20_8)
  show Q_dge5 Z ar br va cs fm vk v0 v1 v2 v3 v4 h0 n0 _ T19.heap _
  exact ⟨b19_0, b19_1, k19_0, rfl, N19, f20_7, sz_b19_0, sz_b19_1, o19_0, o19_1, o19_2, o19_3⟩
def Q_dgn1 (Z : State) (ar : Addr) (br : Addr) (va : Addr) (cs : Int32) (fm : Value) (vk : ClassId) (v0 : Int32) (h0 : Heap) (n0 : Nat) (v : Option Value) (h : Heap) (L : List Loc) : Prop := v = some (.ref ar) ∧ Fr n0 L ∧ Keep h0 h []
theorem d9_18 : decode prog_36_method_3_code 18 = .ok (.aload_n 0, 1) := by decide +kernel
theorem d9_19 : decode prog_36_method_3_code 19 = .ok (.invokevirtual 26, 3) := by decide +kernel
set_option maxRecDepth 65536 in
set_option maxHeartbeats 40000000 in
theorem rm_dgn1 (l : Launch) (Z : State) (a0 : Array Value) (hw : ∀ d ∈ tables_1, d.before a0 Z = true) (ws : List Jvm.Cond) (ar : Addr) (br : Addr) (va : Addr) (cs : Int32) (fm : Value) (vk : ClassId) (v0 : Int32) (h0 : Heap) (n0 : Nat) (Z0 : n0 ≤ h0.size) (H0 : Exa Z h0 ar "java/lang/String") (H1 : Fld Z h0 ar "java/lang/String" "value" "[B" (.ref va)) (H2 : Fld Z h0 ar "java/lang/String" "coder" "B" (.int 0)) (H3 : Arv Z h0 va vk .byte (1 : Int32) [(.int v0)] (.int 0)) (H4 : Sta Z h0 "java/lang/String" "COMPACT_STRINGS" "Z" (.int cs)) (H5 : Sta Z h0 "jdk/internal/util/Preconditions" "SIOOBE_FORMATTER" "Ljava/util/function/BiFunction;" fm) (isr_fm : fm.isRef = true) (hd0 : ¬ (f_ihd (nar .char (nar .char ((v0 &&& (255 : Int32))).toUInt32.toUInt16.toUInt32.toInt32))) = (0 : Int32)) (hv : ¬ v0 = (10 : Int32)) (hcs : ¬ cs = (0 : Int32)) :
    MetFree l Y21 (head1 (Jvm.Cond.code Y21 prog_36_method_3_code 4 (some (.object "java/lang/String")) :: ws) ({ frames := 4, cells := 2, slots := 8, locals := 59 } : Room)) (fun a U => a = #[(.ref ar), (.ref br)] ∧ Z.Warmed39 U.vm ∧ U.heap = h0 ∧ CHv Z consts_1 U.vm h0) (fun _ _ _ _ _ => True) (fun _ U o U' => ∃ v L, o = .returned v ∧ Q_dgn1 Z ar br va cs fm vk v0 h0 n0 v U'.heap L ∧ CHr Z consts_1 U.vm U.heap U'.vm U'.heap ∧ ReturnedEndW U o U' L ({ frames := 4, cells := 2, slots := 8, locals := 59 } : Room).cells ({ frames := 4, cells := 2, slots := 8, locals := 59 } : Room).slots) := by
  refine MetFree.of_bodySF (plainFor_of_name pn9) hisR ?_
  intro p e s m args below meth c s₁ Bd hml0 hP hK
  obtain ⟨rfl, hZ, hh, hCH⟩ := hP
  have hx := Bd.exec
  have hby := Bd.bytes
  have hret := Bd.returns
  have hlk := Bd.notSynchronized
  have hml : c.maxLocals = 4 := hml0
  have hown : s.vm.findClass "com/example/surebit/surebit/input/HexNumber" = some m.cls := findClass_of_methodNamed Bd.named
  have hnm := (name_of_methodNamed Bd.named Bd.method).1
  have hZ : Z.Warmed39 (s.setVm s.vm).vm := hZ
  have hown : (s.setVm s.vm).vm.findClass "com/example/surebit/surebit/input/HexNumber" = some m.cls := hown
  have hS0 : s.Since s.vm h0.size := (State.WarmedH.refl s).since _
  have hk0 : h0.size ≤ h0.size := Nat.le_refl _
  have CR0 : CHr Z consts_1 s.vm h0 s.vm h0 := CHr.refl hCH
  have hEL : EW Z a0 consts_1 := own_EW hw
  have wS := own_wS hw
  have X0 : Stand p l e ({ frames := 4, cells := 2, slots := 8, locals := 59 } : Room) (s.setVm s.vm) m #[(.ref ar), (.ref br)] below meth c s₁ [] 0 0 := Stand.of_body Bd
  have e0 : s₁.heap = h0 := by rw [← hh, Bd.state]; rfl
  have N0 := Fr.nil n0
  show Wp p e below (fun o s₂ => ∃ v L, o = .returned v ∧ Q_dgn1 Z ar br va cs fm vk v0 h0 n0 v s₂.heap L ∧ CHr Z consts_1 s.vm s.heap s₂.vm s₂.heap ∧ ReturnedEndW s o s₂ L ({ frames := 4, cells := 2, slots := 8, locals := 59 } : Room).cells ({ frames := 4, cells := 2, slots := 8, locals := 59 } : Room).slots) _
  refine Wp.back (U' := (s₁.setTop (mkF m 0 #[.val (.ref ar), .val (.ref br), .unset, .unset] []))) (fun t k => castTop (ef9_RR m ar br) k) ?_
  refine Wp.back (U' := (s₁.setTop (mkF m 1 #[.val (.ref ar), .val (.ref br), .unset, .unset] [(.ref ar)]))) (fun t k => XS.aloadN X0.here hx rfl (hb hby d9_0) rfl rfl k) ?_
  obtain ⟨a1, T1, h1, k1, b1, kc1, X1, e1, E1, hS1, hk1, hZ, hown, A1, C1, V1, K1, la1, lb1, R1, L1, Sf1, st1⟩ := ldcCH X0 hx hZ hown (ow hw 45 rfl) wS e0 hS0 hk0 hEL (List.mem_of_getElem? (i := 0) rfl) hCH (vs := [(.int 10)]) (z := (1 : Int32)) ⟨by decide, rfl⟩ (by decide) rfl (g := (mkF m 1 #[.val (.ref ar), .val (.ref br), .unset, .unset] [(.ref ar)])) rfl (hb hby d9_1) (n := 4) (by decide) (by decide) (by decide) (by decide)
  have f2_0 := Nat.le_trans Z0 E1.1
  have f2_1 := H0.ext E1
  have f2_2 := H1.ext E1
  have f2_3 := H2.ext E1
  have f2_4 := H3.ext E1
  have f2_5 := H4.ext E1
  have f2_6 := H5.ext E1
  have f2_7 := (Keep.refl h0 []).ext E1
  have f2_8 := R1.1
  have f2_9 := CR0.trans R1
  have f2_10 := hk1
  refine Wp.back (U' := (T1.setTop (mkF m 3 #[.val (.ref ar), .val (.ref br), .unset, .unset] [(.ref a1), (.ref ar)]))) st1 ?_
  obtain ⟨cq3, kq3, q3a, q3b, q3c⟩ := isOf hZ e1 f2_1
  obtain ⟨_, _, ⟨T3, L3, k3, n3⟩, -, X3, ⟨Lc3, hQ3, l3, y3, z3⟩, st3⟩ := X1.virtualBack hx (y := Y14) (z := Y14) hown (mvT hZ (ow hw 46 rfl)) (mvT hZ (ow hw 47 rfl)) (notFace_of_selects (args := #[]) (mvT hZ (ow hw 49 rfl))) (mvT hZ (ow hw 49 rfl)) (mvT hZ (ow hw 48 rfl)) (by decide) (backOf (W := 0) (rm_ewn l Z a0 hw [] ar a1 va vk (1 : Int32) [(.int v0)] (.int 0) b1 kc1 (.int 0) v0 cs h1 n0 f2_0 f2_1 f2_2 f2_3 f2_4 A1 V1 C1 K1 f2_5 (by decide) (by decide) (by decide) rfl hv hcs) hZ (ow hw 50 rfl) (ow hw 11 rfl) (by decide) (by decide)) q3a q3c (g := (mkF m 3 #[.val (.ref ar), .val (.ref br), .unset, .unset] [(.ref a1), (.ref ar)])) rfl (by rw [hml]; rfl) (Steps.refl _) (argsL := [(.ref a1)]) (rest := []) (lenOf pd_14 rfl) rfl (Nat.le_of_eq rfl) (hb hby d9_3) (fun _ _ => ⟨rfl, e1, (by decide : 2 + 0 ≤ _), (by decide : 8 + 0 ≤ _)⟩)
  dsimp only [Pt.U, Pt.locs, Pt.cells, Pt.slots] at X3 l3 y3 z3 st3 hQ3
  subst l3 y3 z3
  obtain ⟨rfl, N3q, K3⟩ := hQ3
  have f4_0 := Nat.le_trans f2_0 K3.1
  have f4_1 := f2_1.keep K3
  have f4_2 := f2_2.keep K3 nin0
  have f4_3 := f2_3.keep K3 nin0
  have f4_4 := f2_4.keep K3 nin0
  have f4_5 := Sta_keep0 f2_5 K3
  have f4_6 := Sta_keep0 f2_6 K3
  have f4_7 := f2_7.trans K3 all0
  have f4_8 := CHv.keep K3 sf0 f2_8
  have f4_9 := f2_9.trans (CHr.keep K3 sf0 f2_8)
  have f4_10 := Nat.le_trans f2_10 K3.1
  have f4_11 := A1.keep K3
  have f4_12 := C1.keep K3 nin0
  have f4_13 := V1.keep K3 nin0
  have f4_14 := K1.keep K3 nin0
  have N3 := Fr.app N0 N3q
  refine Wp.back (U' := (T3.setTop (mkF m 6 #[.val (.ref ar), .val (.ref br), .unset, .unset] [(.int 0)]))) (fun t k => st3.trans k) ?_
  refine Wp.back (U' := (T3.setTop (mkF m 19 #[.val (.ref ar), .val (.ref br), .unset, .unset] [(.ref ar)]))) (fun t k => XS.ifYes X3.here hx rfl (pc0 := 6) (pc' := 18) rfl (hb hby d9_6) rfl ((if0 _ _).trans (teq (by decide)).1) (by decide) (by decide) (XS.aloadN X3.here hx rfl (hb hby d9_18) rfl rfl k)) ?_
  obtain ⟨cq5, kq5, q5a, q5b, q5c⟩ := isOf hZ rfl f4_1
  obtain ⟨_, _, ⟨T5, L5, k5, n5⟩, -, X5, ⟨Lc5, hQ5, l5, y5, z5⟩, st5⟩ := X3.virtualBack hx (y := Y9) (z := Y9) hown (mvT hZ (ow hw 70 rfl)) (mvT hZ (ow hw 52 rfl)) (notFace_of_selects (args := #[]) (mvT hZ (ow hw 54 rfl))) (mvT hZ (ow hw 54 rfl)) (mvT hZ (ow hw 53 rfl)) (by decide) (backOf (W := 0) (rm_len l Z a0 hw [] ar va vk (1 : Int32) [(.int v0)] (.int 0) cs T3.heap n0 f4_0 f4_1 f4_2 f4_3 f4_4 f4_5 hcs) hZ (ow hw 55 rfl) (ow hw 11 rfl) (by decide) (by decide)) q5a q5c (g := (mkF m 19 #[.val (.ref ar), .val (.ref br), .unset, .unset] [(.ref ar)])) rfl (by rw [hml]; rfl) (Steps.refl _) (argsL := []) (rest := []) (lenOf pd_6 rfl) rfl (Nat.le_of_eq rfl) (hb hby d9_19) (fun _ _ => ⟨rfl, rfl, (by decide : 2 + 0 ≤ _), (by decide : 8 + 0 ≤ _)⟩)
  dsimp only [Pt.U, Pt.locs, Pt.cells, Pt.slots] at X5 l5 y5 z5 st5 hQ5
  subst l5 y5 z5
  obtain ⟨rfl, N5q, K5⟩ := hQ5
  have f6_0 := Nat.le_trans f4_0 K5.1
  have f6_1 := f4_1.keep K5
  have f6_2 := f4_2.keep K5 nin0
  have f6_3 := f4_3.keep K5 nin0
  have f6_4 := f4_4.keep K5 nin0
  have f6_5 := Sta_keep0 f4_5 K5
  have f6_6 := Sta_keep0 f4_6 K5
  have f6_7 := f4_7.trans K5 all0
  have f6_8 := CHv.keep K5 sf0 f4_8
  have f6_9 := f4_9.trans (CHr.keep K5 sf0 f4_8)
  have f6_10 := Nat.le_trans f4_10 K5.1
  have f6_11 := f4_11.keep K5
  have f6_12 := f4_12.keep K5 nin0
  have f6_13 := f4_13.keep K5 nin0
  have f6_14 := f4_14.keep K5 nin0
  have N5 := Fr.app N3 N5q
  refine Wp.back (U' := (T5.setTop (mkF m 22 #[.val (.ref ar), .val (.ref br), .unset, .unset] [(.int 1)]))) (fun t k => st5.trans k) ?_
  refine Wp.back (U' := (T5.setTop (mkF m 50 #[.val (.ref ar), .val (.ref br), .val (.int 1), .val (.int 0)] [(.int 0), (.ref ar)]))) (fun t k => XS.istoreN X5.here hx rfl (hb hby d9_22) rfl (l' := #[.val (.ref ar), .val (.ref br), .val (.int 1), .unset]) rfl (XS.iloadN X5.here hx rfl (hb hby d9_23) rfl (XS.ifYes X5.here hx rfl (pc0 := 24) (pc' := 41) rfl (hb hby d9_24) rfl ((if0 _ _).trans (feq (by decide)).2) (by decide) (by decide) (XT.iconstV X5.here hx rfl 0 (hb hby d9_41) (by decide) (XS.istoreN X5.here hx rfl (hb hby d9_42) rfl (l' := #[.val (.ref ar), .val (.ref br), .val (.int 1), .val (.int 0)]) rfl (XS.iloadN X5.here hx rfl (hb hby d9_43) rfl (XS.iloadN X5.here hx rfl (hb hby d9_44) rfl (XS.icmpNo X5.here hx rfl (hb hby d9_45) rfl (tlt (by decide)).2.1 (XS.aloadN X5.here hx rfl (hb hby d9_48) rfl rfl (XS.iloadN X5.here hx rfl (hb hby d9_49) rfl k)))))))))) ?_
  obtain ⟨cq7, kq7, q7a, q7b, q7c⟩ := isOf hZ rfl f6_1
  obtain ⟨_, _, ⟨T7, L7, k7, n7⟩, -, X7, ⟨Lc7, hQ7, l7, y7, z7⟩, st7⟩ := X5.virtualBack hx (y := Y11) (z := Y11) hown (mvT hZ (ow hw 71 rfl)) (mvT hZ (ow hw 72 rfl)) (notFace_of_selects (args := #[]) (mvT hZ (ow hw 74 rfl))) (mvT hZ (ow hw 74 rfl)) (mvT hZ (ow hw 73 rfl)) (by decide) (backOf (W := 0) (rm_sch l Z a0 hw [] ar (0 : Int32) va cs vk (1 : Int32) [(.int v0)] (.int 0) v0 fm T5.heap n0 f6_0 f6_1 f6_2 f6_3 f6_4 f6_5 f6_6 isr_fm (by decide) (by decide) rfl hcs) hZ (ow hw 75 rfl) (ow hw 11 rfl) (by decide) (by decide)) q7a q7c (g := (mkF m 50 #[.val (.ref ar), .val (.ref br), .val (.int 1), .val (.int 0)] [(.int 0), (.ref ar)])) rfl (by rw [hml]; rfl) (Steps.refl _) (argsL := [(.int 0)]) (rest := []) (lenOf pd_15 rfl) rfl (Nat.le_of_eq rfl) (hb hby d9_50) (fun _ _ => ⟨rfl, rfl, (by decide : 2 + 0 ≤ _), (by decide : 8 + 0 ≤ _)⟩)
  dsimp only [Pt.U, Pt.locs, Pt.cells, Pt.slots] at X7 l7 y7 z7 st7 hQ7
  subst l7 y7 z7
  obtain ⟨rfl, N7q, K7⟩ := hQ7
  have f8_0 := Nat.le_trans f6_0 K7.1
  have f8_1 := f6_1.keep K7
  have f8_2 := f6_2.keep K7 nin0
  have f8_3 := f6_3.keep K7 nin0
  have f8_4 := f6_4.keep K7 nin0
  have f8_5 := Sta_keep0 f6_5 K7
  have f8_6 := Sta_keep0 f6_6 K7
  have f8_7 := f6_7.trans K7 all0
  have f8_8 := CHv.keep K7 sf0 f6_8
  have f8_9 := f6_9.trans (CHr.keep K7 sf0 f6_8)
  have f8_10 := Nat.le_trans f6_10 K7.1
  have f8_11 := f6_11.keep K7
  have f8_12 := f6_12.keep K7 nin0
  have f8_13 := f6_13.keep K7 nin0
  have f8_14 := f6_14.keep K7 nin0
  have N7 := Fr.app N5 N7q
  refine Wp.back (U' := (T7.setTop (mkF m 53 #[.val (.ref ar), .val (.ref br), .val (.int 1), .val (.int 0)] [(.int (nar .char (nar .char ((v0 &&& (255 : Int32))).toUInt32.toUInt16.toUInt32.toInt32)))]))) (fun t k => st7.trans k) ?_
  obtain ⟨_, _, ⟨T9, L9, k9, n9⟩, -, X9, ⟨Lc9, hQ9, l9, y9, z9⟩, st9⟩ := Jvm.LawKit.callS X7 hx (y := Y1) hown (mvT hZ (ow hw 93 rfl)) (mvT hZ (ow hw 94 rfl)) (mvT hZ (ow hw 43 rfl)) (mvT hZ (ow hw 95 rfl)) (by decide) (backOf (W := 0) (rm_f_ihd l Z a0 hw [] (nar .char (nar .char ((v0 &&& (255 : Int32))).toUInt32.toUInt16.toUInt32.toInt32)) T7.heap n0 f8_0 ) hZ (ow hw 95 rfl) (ow hw 43 rfl) (by decide) (by decide)) (g := (mkF m 53 #[.val (.ref ar), .val (.ref br), .val (.int 1), .val (.int 0)] [(.int (nar .char (nar .char ((v0 &&& (255 : Int32))).toUInt32.toUInt16.toUInt32.toInt32)))])) rfl (by rw [hml]; rfl) (argsL := [(.int (nar .char (nar .char ((v0 &&& (255 : Int32))).toUInt32.toUInt16.toUInt32.toInt32)))]) (rest := []) (lenOf pd_16 rfl) rfl (Nat.le_of_eq rfl) (hb hby d9_53) (fun _ _ => ⟨rfl, rfl, (by decide : 2 + 0 ≤ _), (by decide : 8 + 0 ≤ _)⟩)
  dsimp only [Pt.U, Pt.locs, Pt.cells, Pt.slots] at X9 l9 y9 z9 st9 hQ9
  subst l9 y9 z9
  obtain ⟨rfl, N9q, e9⟩ := hQ9
  have N9 := Fr.app N7 N9q
  refine Wp.back (U' := (T9.setTop (mkF m 56 #[.val (.ref ar), .val (.ref br), .val (.int 1), .val (.int 0)] [(.int (f_ihd (nar .char (nar .char ((v0 &&& (255 : Int32))).toUInt32.toUInt16.toUInt32.toInt32))))]))) st9 ?_
  refine Wp.back (U' := (T9.setTop (mkF m 85 #[.val (.ref ar), .val (.ref br), .val (.int 1), .val (.int 1)] [(.int 1), (.int 0), (.ref ar)]))) (fun t k => XS.ifYes X9.here hx rfl (pc0 := 56) (pc' := 76) rfl (hb hby d9_56) rfl ((if0 _ _).trans (feq hd0).2) (by decide) (by decide) (XT.iincV X9.here hx rfl 1 (hb hby d9_76) (by decide) rfl (l' := #[.val (.ref ar), .val (.ref br), .val (.int 1), .val (.int 1)]) rfl (XS.goto X9.here hx rfl (pc0 := 79) (pc' := 43) rfl (hb hby d9_79) (by decide) (by decide) (XS.iloadN X9.here hx rfl (hb hby d9_43) rfl (XS.iloadN X9.here hx rfl (hb hby d9_44) rfl (XS.icmpYes X9.here hx rfl (pc0 := 45) (pc' := 82) rfl (hb hby d9_45) rfl (flt (by decide)).2.1 (by decide) (by decide) (XS.aloadN X9.here hx rfl (hb hby d9_82) rfl rfl (XT.iconstV X9.here hx rfl 0 (hb hby d9_83) (by decide) (XS.iloadN X9.here hx rfl (hb hby d9_84) rfl k))))))))) ?_
  obtain ⟨cq10, kq10, q10a, q10b, q10c⟩ := isOf hZ e9 f8_1
  obtain ⟨_, _, ⟨T10, L10, k10, n10⟩, -, X10, ⟨Lc10, hQ10, l10, y10, z10⟩, st10⟩ := X9.virtualBack hx (y := Y20) (z := Y20) hown (mvT hZ (ow hw 96 rfl)) (mvT hZ (ow hw 97 rfl)) (notFace_of_selects (args := #[]) (mvT hZ (ow hw 99 rfl))) (mvT hZ (ow hw 99 rfl)) (mvT hZ (ow hw 98 rfl)) (by decide) (backOf (W := 0) (rm_sq l Z a0 hw [] ar (1 : Int32) va cs fm vk [(.int v0)] (.int 0) T7.heap n0 f8_0 f8_1 f8_2 f8_3 f8_4 f8_5 f8_6 isr_fm (by decide) hcs) hZ (ow hw 100 rfl) (ow hw 11 rfl) (by decide) (by decide)) q10a q10c (g := (mkF m 85 #[.val (.ref ar), .val (.ref br), .val (.int 1), .val (.int 1)] [(.int 1), (.int 0), (.ref ar)])) rfl (by rw [hml]; rfl) (Steps.refl _) (argsL := [(.int 0), (.int 1)]) (rest := []) (lenOf pd_17 rfl) rfl (Nat.le_of_eq rfl) (hb hby d9_85) (fun _ _ => ⟨rfl, e9, (by decide : 2 + 0 ≤ _), (by decide : 8 + 0 ≤ _)⟩)
  dsimp only [Pt.U, Pt.locs, Pt.cells, Pt.slots] at X10 l10 y10 z10 st10 hQ10
  subst l10 y10 z10
  obtain ⟨rfl, N10q, K10⟩ := hQ10
  have f11_0 := Nat.le_trans f8_0 K10.1
  have f11_1 := f8_1.keep K10
  have f11_2 := f8_2.keep K10 nin0
  have f11_3 := f8_3.keep K10 nin0
  have f11_4 := f8_4.keep K10 nin0
  have f11_5 := Sta_keep0 f8_5 K10
  have f11_6 := Sta_keep0 f8_6 K10
  have f11_7 := f8_7.trans K10 all0
  have f11_8 := CHv.keep K10 sf0 f8_8
  have f11_9 := f8_9.trans (CHr.keep K10 sf0 f8_8)
  have f11_10 := Nat.le_trans f8_10 K10.1
  have f11_11 := f8_11.keep K10
  have f11_12 := f8_12.keep K10 nin0
  have f11_13 := f8_13.keep K10 nin0
  have f11_14 := f8_14.keep K10 nin0
  have N10 := Fr.app N9 N10q
  refine Wp.back (U' := (T10.setTop (mkF m 88 #[.val (.ref ar), .val (.ref br), .val (.int 1), .val (.int 1)] [(.ref ar)]))) (fun t k => st10.trans k) ?_
  obtain ⟨fs, hr, hrun, hended, hend⟩ := X10.leaveW hS1 f11_10 (v := (some (.ref ar))) (fun h => by rw [hret] at h; cases h)
  refine Wp.done (retOut X10 hx hret rfl (Or.inr (Or.inr (Or.inr (Or.inr ⟨rfl, rfl, rfl⟩)))) (hb hby d9_88) hr) hrun hended ⟨_, _, rfl, ?_, ?_, hend.1, hend.2.1, hend.2.2.1, hend.2.2.2.mono (by decide) (by decide)⟩
  rotate_left
  · show CHr Z consts_1 s.vm s.heap T10.vm T10.heap
    rw [hh]
    exact f11_9.trans (CHv.at X10 hZ hEL f11_8)
  show Q_dgn1 Z ar br va cs fm vk v0 h0 n0 _ T10.heap _
  exact ⟨rfl, N10, f11_7⟩
def Q_dgn2 (Z : State) (ar : Addr) (br : Addr) (va : Addr) (cs : Int32) (fm : Value) (vk : ClassId) (v0 : Int32) (v1 : Int32) (h0 : Heap) (n0 : Nat) (v : Option Value) (h : Heap) (L : List Loc) : Prop := v = some (.ref ar) ∧ Fr n0 L ∧ Keep h0 h []
set_option maxRecDepth 65536 in
set_option maxHeartbeats 40000000 in
theorem rm_dgn2 (l : Launch) (Z : State) (a0 : Array Value) (hw : ∀ d ∈ tables_1, d.before a0 Z = true) (ws : List Jvm.Cond) (ar : Addr) (br : Addr) (va : Addr) (cs : Int32) (fm : Value) (vk : ClassId) (v0 : Int32) (v1 : Int32) (h0 : Heap) (n0 : Nat) (Z0 : n0 ≤ h0.size) (H0 : Exa Z h0 ar "java/lang/String") (H1 : Fld Z h0 ar "java/lang/String" "value" "[B" (.ref va)) (H2 : Fld Z h0 ar "java/lang/String" "coder" "B" (.int 0)) (H3 : Arv Z h0 va vk .byte (2 : Int32) [(.int v0), (.int v1)] (.int 0)) (H4 : Sta Z h0 "java/lang/String" "COMPACT_STRINGS" "Z" (.int cs)) (H5 : Sta Z h0 "jdk/internal/util/Preconditions" "SIOOBE_FORMATTER" "Ljava/util/function/BiFunction;" fm) (isr_fm : fm.isRef = true) (hd0 : ¬ (f_ihd (nar .char (nar .char ((v0 &&& (255 : Int32))).toUInt32.toUInt16.toUInt32.toInt32))) = (0 : Int32)) (hd1 : ¬ (f_ihd (nar .char (nar .char ((v1 &&& (255 : Int32))).toUInt32.toUInt16.toUInt32.toInt32))) = (0 : Int32)) (hv : ¬ v1 = (10 : Int32)) (hcs : ¬ cs = (0 : Int32)) :
    MetFree l Y21 (head1 (Jvm.Cond.code Y21 prog_36_method_3_code 4 (some (.object "java/lang/String")) :: ws) ({ frames := 4, cells := 2, slots := 8, locals := 59 } : Room)) (fun a U => a = #[(.ref ar), (.ref br)] ∧ Z.Warmed39 U.vm ∧ U.heap = h0 ∧ CHv Z consts_1 U.vm h0) (fun _ _ _ _ _ => True) (fun _ U o U' => ∃ v L, o = .returned v ∧ Q_dgn2 Z ar br va cs fm vk v0 v1 h0 n0 v U'.heap L ∧ CHr Z consts_1 U.vm U.heap U'.vm U'.heap ∧ ReturnedEndW U o U' L ({ frames := 4, cells := 2, slots := 8, locals := 59 } : Room).cells ({ frames := 4, cells := 2, slots := 8, locals := 59 } : Room).slots) := by
  refine MetFree.of_bodySF (plainFor_of_name pn9) hisR ?_
  intro p e s m args below meth c s₁ Bd hml0 hP hK
  obtain ⟨rfl, hZ, hh, hCH⟩ := hP
  have hx := Bd.exec
  have hby := Bd.bytes
  have hret := Bd.returns
  have hlk := Bd.notSynchronized
  have hml : c.maxLocals = 4 := hml0
  have hown : s.vm.findClass "com/example/surebit/surebit/input/HexNumber" = some m.cls := findClass_of_methodNamed Bd.named
  have hnm := (name_of_methodNamed Bd.named Bd.method).1
  have hZ : Z.Warmed39 (s.setVm s.vm).vm := hZ
  have hown : (s.setVm s.vm).vm.findClass "com/example/surebit/surebit/input/HexNumber" = some m.cls := hown
  have hS0 : s.Since s.vm h0.size := (State.WarmedH.refl s).since _
  have hk0 : h0.size ≤ h0.size := Nat.le_refl _
  have CR0 : CHr Z consts_1 s.vm h0 s.vm h0 := CHr.refl hCH
  have hEL : EW Z a0 consts_1 := own_EW hw
  have wS := own_wS hw
  have X0 : Stand p l e ({ frames := 4, cells := 2, slots := 8, locals := 59 } : Room) (s.setVm s.vm) m #[(.ref ar), (.ref br)] below meth c s₁ [] 0 0 := Stand.of_body Bd
  have e0 : s₁.heap = h0 := by rw [← hh, Bd.state]; rfl
  have N0 := Fr.nil n0
  show Wp p e below (fun o s₂ => ∃ v L, o = .returned v ∧ Q_dgn2 Z ar br va cs fm vk v0 v1 h0 n0 v s₂.heap L ∧ CHr Z consts_1 s.vm s.heap s₂.vm s₂.heap ∧ ReturnedEndW s o s₂ L ({ frames := 4, cells := 2, slots := 8, locals := 59 } : Room).cells ({ frames := 4, cells := 2, slots := 8, locals := 59 } : Room).slots) _
  refine Wp.back (U' := (s₁.setTop (mkF m 0 #[.val (.ref ar), .val (.ref br), .unset, .unset] []))) (fun t k => castTop (ef9_RR m ar br) k) ?_
  refine Wp.back (U' := (s₁.setTop (mkF m 1 #[.val (.ref ar), .val (.ref br), .unset, .unset] [(.ref ar)]))) (fun t k => XS.aloadN X0.here hx rfl (hb hby d9_0) rfl rfl k) ?_
  obtain ⟨a1, T1, h1, k1, b1, kc1, X1, e1, E1, hS1, hk1, hZ, hown, A1, C1, V1, K1, la1, lb1, R1, L1, Sf1, st1⟩ := ldcCH X0 hx hZ hown (ow hw 45 rfl) wS e0 hS0 hk0 hEL (List.mem_of_getElem? (i := 0) rfl) hCH (vs := [(.int 10)]) (z := (1 : Int32)) ⟨by decide, rfl⟩ (by decide) rfl (g := (mkF m 1 #[.val (.ref ar), .val (.ref br), .unset, .unset] [(.ref ar)])) rfl (hb hby d9_1) (n := 4) (by decide) (by decide) (by decide) (by decide)
  have f2_0 := Nat.le_trans Z0 E1.1
  have f2_1 := H0.ext E1
  have f2_2 := H1.ext E1
  have f2_3 := H2.ext E1
  have f2_4 := H3.ext E1
  have f2_5 := H4.ext E1
  have f2_6 := H5.ext E1
  have f2_7 := (Keep.refl h0 []).ext E1
  have f2_8 := R1.1
  have f2_9 := CR0.trans R1
  have f2_10 := hk1
  refine Wp.back (U' := (T1.setTop (mkF m 3 #[.val (.ref ar), .val (.ref br), .unset, .unset] [(.ref a1), (.ref ar)]))) st1 ?_
  obtain ⟨cq3, kq3, q3a, q3b, q3c⟩ := isOf hZ e1 f2_1
  obtain ⟨_, _, ⟨T3, L3, k3, n3⟩, -, X3, ⟨Lc3, hQ3, l3, y3, z3⟩, st3⟩ := X1.virtualBack hx (y := Y14) (z := Y14) hown (mvT hZ (ow hw 46 rfl)) (mvT hZ (ow hw 47 rfl)) (notFace_of_selects (args := #[]) (mvT hZ (ow hw 49 rfl))) (mvT hZ (ow hw 49 rfl)) (mvT hZ (ow hw 48 rfl)) (by decide) (backOf (W := 0) (rm_ewn l Z a0 hw [] ar a1 va vk (2 : Int32) [(.int v0), (.int v1)] (.int 0) b1 kc1 (.int 0) v1 cs h1 n0 f2_0 f2_1 f2_2 f2_3 f2_4 A1 V1 C1 K1 f2_5 (by decide) (by decide) (by decide) rfl hv hcs) hZ (ow hw 50 rfl) (ow hw 11 rfl) (by decide) (by decide)) q3a q3c (g := (mkF m 3 #[.val (.ref ar), .val (.ref br), .unset, .unset] [(.ref a1), (.ref ar)])) rfl (by rw [hml]; rfl) (Steps.refl _) (argsL := [(.ref a1)]) (rest := []) (lenOf pd_14 rfl) rfl (Nat.le_of_eq rfl) (hb hby d9_3) (fun _ _ => ⟨rfl, e1, (by decide : 2 + 0 ≤ _), (by decide : 8 + 0 ≤ _)⟩)
  dsimp only [Pt.U, Pt.locs, Pt.cells, Pt.slots] at X3 l3 y3 z3 st3 hQ3
  subst l3 y3 z3
  obtain ⟨rfl, N3q, K3⟩ := hQ3
  have f4_0 := Nat.le_trans f2_0 K3.1
  have f4_1 := f2_1.keep K3
  have f4_2 := f2_2.keep K3 nin0
  have f4_3 := f2_3.keep K3 nin0
  have f4_4 := f2_4.keep K3 nin0
  have f4_5 := Sta_keep0 f2_5 K3
  have f4_6 := Sta_keep0 f2_6 K3
  have f4_7 := f2_7.trans K3 all0
  have f4_8 := CHv.keep K3 sf0 f2_8
  have f4_9 := f2_9.trans (CHr.keep K3 sf0 f2_8)
  have f4_10 := Nat.le_trans f2_10 K3.1
  have f4_11 := A1.keep K3
  have f4_12 := C1.keep K3 nin0
  have f4_13 := V1.keep K3 nin0
  have f4_14 := K1.keep K3 nin0
  have N3 := Fr.app N0 N3q
  refine Wp.back (U' := (T3.setTop (mkF m 6 #[.val (.ref ar), .val (.ref br), .unset, .unset] [(.int 0)]))) (fun t k => st3.trans k) ?_
  refine Wp.back (U' := (T3.setTop (mkF m 19 #[.val (.ref ar), .val (.ref br), .unset, .unset] [(.ref ar)]))) (fun t k => XS.ifYes X3.here hx rfl (pc0 := 6) (pc' := 18) rfl (hb hby d9_6) rfl ((if0 _ _).trans (teq (by decide)).1) (by decide) (by decide) (XS.aloadN X3.here hx rfl (hb hby d9_18) rfl rfl k)) ?_
  obtain ⟨cq5, kq5, q5a, q5b, q5c⟩ := isOf hZ rfl f4_1
  obtain ⟨_, _, ⟨T5, L5, k5, n5⟩, -, X5, ⟨Lc5, hQ5, l5, y5, z5⟩, st5⟩ := X3.virtualBack hx (y := Y9) (z := Y9) hown (mvT hZ (ow hw 70 rfl)) (mvT hZ (ow hw 52 rfl)) (notFace_of_selects (args := #[]) (mvT hZ (ow hw 54 rfl))) (mvT hZ (ow hw 54 rfl)) (mvT hZ (ow hw 53 rfl)) (by decide) (backOf (W := 0) (rm_len l Z a0 hw [] ar va vk (2 : Int32) [(.int v0), (.int v1)] (.int 0) cs T3.heap n0 f4_0 f4_1 f4_2 f4_3 f4_4 f4_5 hcs) hZ (ow hw 55 rfl) (ow hw 11 rfl) (by decide) (by decide)) q5a q5c (g := (mkF m 19 #[.val (.ref ar), .val (.ref br), .unset, .unset] [(.ref ar)])) rfl (by rw [hml]; rfl) (Steps.refl _) (argsL := []) (rest := []) (lenOf pd_6 rfl) rfl (Nat.le_of_eq rfl) (hb hby d9_19) (fun _ _ => ⟨rfl, rfl, (by decide : 2 + 0 ≤ _), (by decide : 8 + 0 ≤ _)⟩)
  dsimp only [Pt.U, Pt.locs, Pt.cells, Pt.slots] at X5 l5 y5 z5 st5 hQ5
  subst l5 y5 z5
  obtain ⟨rfl, N5q, K5⟩ := hQ5
  have f6_0 := Nat.le_trans f4_0 K5.1
  have f6_1 := f4_1.keep K5
  have f6_2 := f4_2.keep K5 nin0
  have f6_3 := f4_3.keep K5 nin0
  have f6_4 := f4_4.keep K5 nin0
  have f6_5 := Sta_keep0 f4_5 K5
  have f6_6 := Sta_keep0 f4_6 K5
  have f6_7 := f4_7.trans K5 all0
  have f6_8 := CHv.keep K5 sf0 f4_8
  have f6_9 := f4_9.trans (CHr.keep K5 sf0 f4_8)
  have f6_10 := Nat.le_trans f4_10 K5.1
  have f6_11 := f4_11.keep K5
  have f6_12 := f4_12.keep K5 nin0
  have f6_13 := f4_13.keep K5 nin0
  have f6_14 := f4_14.keep K5 nin0
  have N5 := Fr.app N3 N5q
  refine Wp.back (U' := (T5.setTop (mkF m 22 #[.val (.ref ar), .val (.ref br), .unset, .unset] [(.int 2)]))) (fun t k => st5.trans k) ?_
  refine Wp.back (U' := (T5.setTop (mkF m 50 #[.val (.ref ar), .val (.ref br), .val (.int 2), .val (.int 0)] [(.int 0), (.ref ar)]))) (fun t k => XS.istoreN X5.here hx rfl (hb hby d9_22) rfl (l' := #[.val (.ref ar), .val (.ref br), .val (.int 2), .unset]) rfl (XS.iloadN X5.here hx rfl (hb hby d9_23) rfl (XS.ifYes X5.here hx rfl (pc0 := 24) (pc' := 41) rfl (hb hby d9_24) rfl ((if0 _ _).trans (feq (by decide)).2) (by decide) (by decide) (XT.iconstV X5.here hx rfl 0 (hb hby d9_41) (by decide) (XS.istoreN X5.here hx rfl (hb hby d9_42) rfl (l' := #[.val (.ref ar), .val (.ref br), .val (.int 2), .val (.int 0)]) rfl (XS.iloadN X5.here hx rfl (hb hby d9_43) rfl (XS.iloadN X5.here hx rfl (hb hby d9_44) rfl (XS.icmpNo X5.here hx rfl (hb hby d9_45) rfl (tlt (by decide)).2.1 (XS.aloadN X5.here hx rfl (hb hby d9_48) rfl rfl (XS.iloadN X5.here hx rfl (hb hby d9_49) rfl k)))))))))) ?_
  obtain ⟨cq7, kq7, q7a, q7b, q7c⟩ := isOf hZ rfl f6_1
  obtain ⟨_, _, ⟨T7, L7, k7, n7⟩, -, X7, ⟨Lc7, hQ7, l7, y7, z7⟩, st7⟩ := X5.virtualBack hx (y := Y11) (z := Y11) hown (mvT hZ (ow hw 71 rfl)) (mvT hZ (ow hw 72 rfl)) (notFace_of_selects (args := #[]) (mvT hZ (ow hw 74 rfl))) (mvT hZ (ow hw 74 rfl)) (mvT hZ (ow hw 73 rfl)) (by decide) (backOf (W := 0) (rm_sch l Z a0 hw [] ar (0 : Int32) va cs vk (2 : Int32) [(.int v0), (.int v1)] (.int 0) v0 fm T5.heap n0 f6_0 f6_1 f6_2 f6_3 f6_4 f6_5 f6_6 isr_fm (by decide) (by decide) rfl hcs) hZ (ow hw 75 rfl) (ow hw 11 rfl) (by decide) (by decide)) q7a q7c (g := (mkF m 50 #[.val (.ref ar), .val (.ref br), .val (.int 2), .val (.int 0)] [(.int 0), (.ref ar)])) rfl (by rw [hml]; rfl) (Steps.refl _) (argsL := [(.int 0)]) (rest := []) (lenOf pd_15 rfl) rfl (Nat.le_of_eq rfl) (hb hby d9_50) (fun _ _ => ⟨rfl, rfl, (by decide : 2 + 0 ≤ _), (by decide : 8 + 0 ≤ _)⟩)
  dsimp only [Pt.U, Pt.locs, Pt.cells, Pt.slots] at X7 l7 y7 z7 st7 hQ7
  subst l7 y7 z7
  obtain ⟨rfl, N7q, K7⟩ := hQ7
  have f8_0 := Nat.le_trans f6_0 K7.1
  have f8_1 := f6_1.keep K7
  have f8_2 := f6_2.keep K7 nin0
  have f8_3 := f6_3.keep K7 nin0
  have f8_4 := f6_4.keep K7 nin0
  have f8_5 := Sta_keep0 f6_5 K7
  have f8_6 := Sta_keep0 f6_6 K7
  have f8_7 := f6_7.trans K7 all0
  have f8_8 := CHv.keep K7 sf0 f6_8
  have f8_9 := f6_9.trans (CHr.keep K7 sf0 f6_8)
  have f8_10 := Nat.le_trans f6_10 K7.1
  have f8_11 := f6_11.keep K7
  have f8_12 := f6_12.keep K7 nin0
  have f8_13 := f6_13.keep K7 nin0
  have f8_14 := f6_14.keep K7 nin0
  have N7 := Fr.app N5 N7q
  refine Wp.back (U' := (T7.setTop (mkF m 53 #[.val (.ref ar), .val (.ref br), .val (.int 2), .val (.int 0)] [(.int (nar .char (nar .char ((v0 &&& (255 : Int32))).toUInt32.toUInt16.toUInt32.toInt32)))]))) (fun t k => st7.trans k) ?_
  obtain ⟨_, _, ⟨T9, L9, k9, n9⟩, -, X9, ⟨Lc9, hQ9, l9, y9, z9⟩, st9⟩ := Jvm.LawKit.callS X7 hx (y := Y1) hown (mvT hZ (ow hw 93 rfl)) (mvT hZ (ow hw 94 rfl)) (mvT hZ (ow hw 43 rfl)) (mvT hZ (ow hw 95 rfl)) (by decide) (backOf (W := 0) (rm_f_ihd l Z a0 hw [] (nar .char (nar .char ((v0 &&& (255 : Int32))).toUInt32.toUInt16.toUInt32.toInt32)) T7.heap n0 f8_0 ) hZ (ow hw 95 rfl) (ow hw 43 rfl) (by decide) (by decide)) (g := (mkF m 53 #[.val (.ref ar), .val (.ref br), .val (.int 2), .val (.int 0)] [(.int (nar .char (nar .char ((v0 &&& (255 : Int32))).toUInt32.toUInt16.toUInt32.toInt32)))])) rfl (by rw [hml]; rfl) (argsL := [(.int (nar .char (nar .char ((v0 &&& (255 : Int32))).toUInt32.toUInt16.toUInt32.toInt32)))]) (rest := []) (lenOf pd_16 rfl) rfl (Nat.le_of_eq rfl) (hb hby d9_53) (fun _ _ => ⟨rfl, rfl, (by decide : 2 + 0 ≤ _), (by decide : 8 + 0 ≤ _)⟩)
  dsimp only [Pt.U, Pt.locs, Pt.cells, Pt.slots] at X9 l9 y9 z9 st9 hQ9
  subst l9 y9 z9
  obtain ⟨rfl, N9q, e9⟩ := hQ9
  have N9 := Fr.app N7 N9q
  refine Wp.back (U' := (T9.setTop (mkF m 56 #[.val (.ref ar), .val (.ref br), .val (.int 2), .val (.int 0)] [(.int (f_ihd (nar .char (nar .char ((v0 &&& (255 : Int32))).toUInt32.toUInt16.toUInt32.toInt32))))]))) st9 ?_
  refine Wp.back (U' := (T9.setTop (mkF m 50 #[.val (.ref ar), .val (.ref br), .val (.int 2), .val (.int 1)] [(.int 1), (.ref ar)]))) (fun t k => XS.ifYes X9.here hx rfl (pc0 := 56) (pc' := 76) rfl (hb hby d9_56) rfl ((if0 _ _).trans (feq hd0).2) (by decide) (by decide) (XT.iincV X9.here hx rfl 1 (hb hby d9_76) (by decide) rfl (l' := #[.val (.ref ar), .val (.ref br), .val (.int 2), .val (.int 1)]) rfl (XS.goto X9.here hx rfl (pc0 := 79) (pc' := 43) rfl (hb hby d9_79) (by decide) (by decide) (XS.iloadN X9.here hx rfl (hb hby d9_43) rfl (XS.iloadN X9.here hx rfl (hb hby d9_44) rfl (XS.icmpNo X9.here hx rfl (hb hby d9_45) rfl (tlt (by decide)).2.1 (XS.aloadN X9.here hx rfl (hb hby d9_48) rfl rfl (XS.iloadN X9.here hx rfl (hb hby d9_49) rfl k)))))))) ?_
  obtain ⟨cq10, kq10, q10a, q10b, q10c⟩ := isOf hZ e9 f8_1
  obtain ⟨_, _, ⟨T10, L10, k10, n10⟩, -, X10, ⟨Lc10, hQ10, l10, y10, z10⟩, st10⟩ := X9.virtualBack hx (y := Y11) (z := Y11) hown (mvT hZ (ow hw 71 rfl)) (mvT hZ (ow hw 72 rfl)) (notFace_of_selects (args := #[]) (mvT hZ (ow hw 74 rfl))) (mvT hZ (ow hw 74 rfl)) (mvT hZ (ow hw 73 rfl)) (by decide) (backOf (W := 0) (rm_sch l Z a0 hw [] ar (1 : Int32) va cs vk (2 : Int32) [(.int v0), (.int v1)] (.int 0) v1 fm T7.heap n0 f8_0 f8_1 f8_2 f8_3 f8_4 f8_5 f8_6 isr_fm (by decide) (by decide) rfl hcs) hZ (ow hw 75 rfl) (ow hw 11 rfl) (by decide) (by decide)) q10a q10c (g := (mkF m 50 #[.val (.ref ar), .val (.ref br), .val (.int 2), .val (.int 1)] [(.int 1), (.ref ar)])) rfl (by rw [hml]; rfl) (Steps.refl _) (argsL := [(.int 1)]) (rest := []) (lenOf pd_15 rfl) rfl (Nat.le_of_eq rfl) (hb hby d9_50) (fun _ _ => ⟨rfl, e9, (by decide : 2 + 0 ≤ _), (by decide : 8 + 0 ≤ _)⟩)
  dsimp only [Pt.U, Pt.locs, Pt.cells, Pt.slots] at X10 l10 y10 z10 st10 hQ10
  subst l10 y10 z10
  obtain ⟨rfl, N10q, K10⟩ := hQ10
  have f11_0 := Nat.le_trans f8_0 K10.1
  have f11_1 := f8_1.keep K10
  have f11_2 := f8_2.keep K10 nin0
  have f11_3 := f8_3.keep K10 nin0
  have f11_4 := f8_4.keep K10 nin0
  have f11_5 := Sta_keep0 f8_5 K10
  have f11_6 := Sta_keep0 f8_6 K10
  have f11_7 := f8_7.trans K10 all0
  have f11_8 := CHv.keep K10 sf0 f8_8
  have f11_9 := f8_9.trans (CHr.keep K10 sf0 f8_8)
  have f11_10 := Nat.le_trans f8_10 K10.1
  have f11_11 := f8_11.keep K10
  have f11_12 := f8_12.keep K10 nin0
  have f11_13 := f8_13.keep K10 nin0
  have f11_14 := f8_14.keep K10 nin0
  have N10 := Fr.app N9 N10q
  refine Wp.back (U' := (T10.setTop (mkF m 53 #[.val (.ref ar), .val (.ref br), .val (.int 2), .val (.int 1)] [(.int (nar .char (nar .char ((v1 &&& (255 : Int32))).toUInt32.toUInt16.toUInt32.toInt32)))]))) (fun t k => st10.trans k) ?_
  obtain ⟨_, _, ⟨T12, L12, k12, n12⟩, -, X12, ⟨Lc12, hQ12, l12, y12, z12⟩, st12⟩ := Jvm.LawKit.callS X10 hx (y := Y1) hown (mvT hZ (ow hw 93 rfl)) (mvT hZ (ow hw 94 rfl)) (mvT hZ (ow hw 43 rfl)) (mvT hZ (ow hw 95 rfl)) (by decide) (backOf (W := 0) (rm_f_ihd l Z a0 hw [] (nar .char (nar .char ((v1 &&& (255 : Int32))).toUInt32.toUInt16.toUInt32.toInt32)) T10.heap n0 f11_0 ) hZ (ow hw 95 rfl) (ow hw 43 rfl) (by decide) (by decide)) (g := (mkF m 53 #[.val (.ref ar), .val (.ref br), .val (.int 2), .val (.int 1)] [(.int (nar .char (nar .char ((v1 &&& (255 : Int32))).toUInt32.toUInt16.toUInt32.toInt32)))])) rfl (by rw [hml]; rfl) (argsL := [(.int (nar .char (nar .char ((v1 &&& (255 : Int32))).toUInt32.toUInt16.toUInt32.toInt32)))]) (rest := []) (lenOf pd_16 rfl) rfl (Nat.le_of_eq rfl) (hb hby d9_53) (fun _ _ => ⟨rfl, rfl, (by decide : 2 + 0 ≤ _), (by decide : 8 + 0 ≤ _)⟩)
  dsimp only [Pt.U, Pt.locs, Pt.cells, Pt.slots] at X12 l12 y12 z12 st12 hQ12
  subst l12 y12 z12
  obtain ⟨rfl, N12q, e12⟩ := hQ12
  have N12 := Fr.app N10 N12q
  refine Wp.back (U' := (T12.setTop (mkF m 56 #[.val (.ref ar), .val (.ref br), .val (.int 2), .val (.int 1)] [(.int (f_ihd (nar .char (nar .char ((v1 &&& (255 : Int32))).toUInt32.toUInt16.toUInt32.toInt32))))]))) st12 ?_
  refine Wp.back (U' := (T12.setTop (mkF m 85 #[.val (.ref ar), .val (.ref br), .val (.int 2), .val (.int 2)] [(.int 2), (.int 0), (.ref ar)]))) (fun t k => XS.ifYes X12.here hx rfl (pc0 := 56) (pc' := 76) rfl (hb hby d9_56) rfl ((if0 _ _).trans (feq hd1).2) (by decide) (by decide) (XT.iincV X12.here hx rfl 1 (hb hby d9_76) (by decide) rfl (l' := #[.val (.ref ar), .val (.ref br), .val (.int 2), .val (.int 2)]) rfl (XS.goto X12.here hx rfl (pc0 := 79) (pc' := 43) rfl (hb hby d9_79) (by decide) (by decide) (XS.iloadN X12.here hx rfl (hb hby d9_43) rfl (XS.iloadN X12.here hx rfl (hb hby d9_44) rfl (XS.icmpYes X12.here hx rfl (pc0 := 45) (pc' := 82) rfl (hb hby d9_45) rfl (flt (by decide)).2.1 (by decide) (by decide) (XS.aloadN X12.here hx rfl (hb hby d9_82) rfl rfl (XT.iconstV X12.here hx rfl 0 (hb hby d9_83) (by decide) (XS.iloadN X12.here hx rfl (hb hby d9_84) rfl k))))))))) ?_
  obtain ⟨cq13, kq13, q13a, q13b, q13c⟩ := isOf hZ e12 f11_1
  obtain ⟨_, _, ⟨T13, L13, k13, n13⟩, -, X13, ⟨Lc13, hQ13, l13, y13, z13⟩, st13⟩ := X12.virtualBack hx (y := Y20) (z := Y20) hown (mvT hZ (ow hw 96 rfl)) (mvT hZ (ow hw 97 rfl)) (notFace_of_selects (args := #[]) (mvT hZ (ow hw 99 rfl))) (mvT hZ (ow hw 99 rfl)) (mvT hZ (ow hw 98 rfl)) (by decide) (backOf (W := 0) (rm_sq l Z a0 hw [] ar (2 : Int32) va cs fm vk [(.int v0), (.int v1)] (.int 0) T10.heap n0 f11_0 f11_1 f11_2 f11_3 f11_4 f11_5 f11_6 isr_fm (by decide) hcs) hZ (ow hw 100 rfl) (ow hw 11 rfl) (by decide) (by decide)) q13a q13c (g := (mkF m 85 #[.val (.ref ar), .val (.ref br), .val (.int 2), .val (.int 2)] [(.int 2), (.int 0), (.ref ar)])) rfl (by rw [hml]; rfl) (Steps.refl _) (argsL := [(.int 0), (.int 2)]) (rest := []) (lenOf pd_17 rfl) rfl (Nat.le_of_eq rfl) (hb hby d9_85) (fun _ _ => ⟨rfl, e12, (by decide : 2 + 0 ≤ _), (by decide : 8 + 0 ≤ _)⟩)
  dsimp only [Pt.U, Pt.locs, Pt.cells, Pt.slots] at X13 l13 y13 z13 st13 hQ13
  subst l13 y13 z13
  obtain ⟨rfl, N13q, K13⟩ := hQ13
  have f14_0 := Nat.le_trans f11_0 K13.1
  have f14_1 := f11_1.keep K13
  have f14_2 := f11_2.keep K13 nin0
  have f14_3 := f11_3.keep K13 nin0
  have f14_4 := f11_4.keep K13 nin0
  have f14_5 := Sta_keep0 f11_5 K13
  have f14_6 := Sta_keep0 f11_6 K13
  have f14_7 := f11_7.trans K13 all0
  have f14_8 := CHv.keep K13 sf0 f11_8
  have f14_9 := f11_9.trans (CHr.keep K13 sf0 f11_8)
  have f14_10 := Nat.le_trans f11_10 K13.1
  have f14_11 := f11_11.keep K13
  have f14_12 := f11_12.keep K13 nin0
  have f14_13 := f11_13.keep K13 nin0
  have f14_14 := f11_14.keep K13 nin0
  have N13 := Fr.app N12 N13q
  refine Wp.back (U' := (T13.setTop (mkF m 88 #[.val (.ref ar), .val (.ref br), .val (.int 2), .val (.int 2)] [(.ref ar)]))) (fun t k => st13.trans k) ?_
  obtain ⟨fs, hr, hrun, hended, hend⟩ := X13.leaveW hS1 f14_10 (v := (some (.ref ar))) (fun h => by rw [hret] at h; cases h)
  refine Wp.done (retOut X13 hx hret rfl (Or.inr (Or.inr (Or.inr (Or.inr ⟨rfl, rfl, rfl⟩)))) (hb hby d9_88) hr) hrun hended ⟨_, _, rfl, ?_, ?_, hend.1, hend.2.1, hend.2.2.1, hend.2.2.2.mono (by decide) (by decide)⟩
  rotate_left
  · show CHr Z consts_1 s.vm s.heap T13.vm T13.heap
    rw [hh]
    exact f14_9.trans (CHv.at X13 hZ hEL f14_8)
  show Q_dgn2 Z ar br va cs fm vk v0 v1 h0 n0 _ T13.heap _
  exact ⟨rfl, N13, f14_7⟩
def Q_dgn3 (Z : State) (ar : Addr) (br : Addr) (va : Addr) (cs : Int32) (fm : Value) (vk : ClassId) (v0 : Int32) (v1 : Int32) (v2 : Int32) (h0 : Heap) (n0 : Nat) (v : Option Value) (h : Heap) (L : List Loc) : Prop := v = some (.ref ar) ∧ Fr n0 L ∧ Keep h0 h []
set_option maxRecDepth 65536 in
set_option maxHeartbeats 40000000 in
theorem rm_dgn3 (l : Launch) (Z : State) (a0 : Array Value) (hw : ∀ d ∈ tables_1, d.before a0 Z = true) (ws : List Jvm.Cond) (ar : Addr) (br : Addr) (va : Addr) (cs : Int32) (fm : Value) (vk : ClassId) (v0 : Int32) (v1 : Int32) (v2 : Int32) (h0 : Heap) (n0 : Nat) (Z0 : n0 ≤ h0.size) (H0 : Exa Z h0 ar "java/lang/String") (H1 : Fld Z h0 ar "java/lang/String" "value" "[B" (.ref va)) (H2 : Fld Z h0 ar "java/lang/String" "coder" "B" (.int 0)) (H3 : Arv Z h0 va vk .byte (3 : Int32) [(.int v0), (.int v1), (.int v2)] (.int 0)) (H4 : Sta Z h0 "java/lang/String" "COMPACT_STRINGS" "Z" (.int cs)) (H5 : Sta Z h0 "jdk/internal/util/Preconditions" "SIOOBE_FORMATTER" "Ljava/util/function/BiFunction;" fm) (isr_fm : fm.isRef = true) (hd0 : ¬ (f_ihd (nar .char (nar .char ((v0 &&& (255 : Int32))).toUInt32.toUInt16.toUInt32.toInt32))) = (0 : Int32)) (hd1 : ¬ (f_ihd (nar .char (nar .char ((v1 &&& (255 : Int32))).toUInt32.toUInt16.toUInt32.toInt32))) = (0 : Int32)) (hd2 : ¬ (f_ihd (nar .char (nar .char ((v2 &&& (255 : Int32))).toUInt32.toUInt16.toUInt32.toInt32))) = (0 : Int32)) (hv : ¬ v2 = (10 : Int32)) (hcs : ¬ cs = (0 : Int32)) :
    MetFree l Y21 (head1 (Jvm.Cond.code Y21 prog_36_method_3_code 4 (some (.object "java/lang/String")) :: ws) ({ frames := 4, cells := 2, slots := 8, locals := 59 } : Room)) (fun a U => a = #[(.ref ar), (.ref br)] ∧ Z.Warmed39 U.vm ∧ U.heap = h0 ∧ CHv Z consts_1 U.vm h0) (fun _ _ _ _ _ => True) (fun _ U o U' => ∃ v L, o = .returned v ∧ Q_dgn3 Z ar br va cs fm vk v0 v1 v2 h0 n0 v U'.heap L ∧ CHr Z consts_1 U.vm U.heap U'.vm U'.heap ∧ ReturnedEndW U o U' L ({ frames := 4, cells := 2, slots := 8, locals := 59 } : Room).cells ({ frames := 4, cells := 2, slots := 8, locals := 59 } : Room).slots) := by
  refine MetFree.of_bodySF (plainFor_of_name pn9) hisR ?_
  intro p e s m args below meth c s₁ Bd hml0 hP hK
  obtain ⟨rfl, hZ, hh, hCH⟩ := hP
  have hx := Bd.exec
  have hby := Bd.bytes
  have hret := Bd.returns
  have hlk := Bd.notSynchronized
  have hml : c.maxLocals = 4 := hml0
  have hown : s.vm.findClass "com/example/surebit/surebit/input/HexNumber" = some m.cls := findClass_of_methodNamed Bd.named
  have hnm := (name_of_methodNamed Bd.named Bd.method).1
  have hZ : Z.Warmed39 (s.setVm s.vm).vm := hZ
  have hown : (s.setVm s.vm).vm.findClass "com/example/surebit/surebit/input/HexNumber" = some m.cls := hown
  have hS0 : s.Since s.vm h0.size := (State.WarmedH.refl s).since _
  have hk0 : h0.size ≤ h0.size := Nat.le_refl _
  have CR0 : CHr Z consts_1 s.vm h0 s.vm h0 := CHr.refl hCH
  have hEL : EW Z a0 consts_1 := own_EW hw
  have wS := own_wS hw
  have X0 : Stand p l e ({ frames := 4, cells := 2, slots := 8, locals := 59 } : Room) (s.setVm s.vm) m #[(.ref ar), (.ref br)] below meth c s₁ [] 0 0 := Stand.of_body Bd
  have e0 : s₁.heap = h0 := by rw [← hh, Bd.state]; rfl
  have N0 := Fr.nil n0
  show Wp p e below (fun o s₂ => ∃ v L, o = .returned v ∧ Q_dgn3 Z ar br va cs fm vk v0 v1 v2 h0 n0 v s₂.heap L ∧ CHr Z consts_1 s.vm s.heap s₂.vm s₂.heap ∧ ReturnedEndW s o s₂ L ({ frames := 4, cells := 2, slots := 8, locals := 59 } : Room).cells ({ frames := 4, cells := 2, slots := 8, locals := 59 } : Room).slots) _
  refine Wp.back (U' := (s₁.setTop (mkF m 0 #[.val (.ref ar), .val (.ref br), .unset, .unset] []))) (fun t k => castTop (ef9_RR m ar br) k) ?_
  refine Wp.back (U' := (s₁.setTop (mkF m 1 #[.val (.ref ar), .val (.ref br), .unset, .unset] [(.ref ar)]))) (fun t k => XS.aloadN X0.here hx rfl (hb hby d9_0) rfl rfl k) ?_
  obtain ⟨a1, T1, h1, k1, b1, kc1, X1, e1, E1, hS1, hk1, hZ, hown, A1, C1, V1, K1, la1, lb1, R1, L1, Sf1, st1⟩ := ldcCH X0 hx hZ hown (ow hw 45 rfl) wS e0 hS0 hk0 hEL (List.mem_of_getElem? (i := 0) rfl) hCH (vs := [(.int 10)]) (z := (1 : Int32)) ⟨by decide, rfl⟩ (by decide) rfl (g := (mkF m 1 #[.val (.ref ar), .val (.ref br), .unset, .unset] [(.ref ar)])) rfl (hb hby d9_1) (n := 4) (by decide) (by decide) (by decide) (by decide)
  have f2_0 := Nat.le_trans Z0 E1.1
  have f2_1 := H0.ext E1
  have f2_2 := H1.ext E1
  have f2_3 := H2.ext E1
  have f2_4 := H3.ext E1
  have f2_5 := H4.ext E1
  have f2_6 := H5.ext E1
  have f2_7 := (Keep.refl h0 []).ext E1
  have f2_8 := R1.1
  have f2_9 := CR0.trans R1
  have f2_10 := hk1
  refine Wp.back (U' := (T1.setTop (mkF m 3 #[.val (.ref ar), .val (.ref br), .unset, .unset] [(.ref a1), (.ref ar)]))) st1 ?_
  obtain ⟨cq3, kq3, q3a, q3b, q3c⟩ := isOf hZ e1 f2_1
  obtain ⟨_, _, ⟨T3, L3, k3, n3⟩, -, X3, ⟨Lc3, hQ3, l3, y3, z3⟩, st3⟩ := X1.virtualBack hx (y := Y14) (z := Y14) hown (mvT hZ (ow hw 46 rfl)) (mvT hZ (ow hw 47 rfl)) (notFace_of_selects (args := #[]) (mvT hZ (ow hw 49 rfl))) (mvT hZ (ow hw 49 rfl)) (mvT hZ (ow hw 48 rfl)) (by decide) (backOf (W := 0) (rm_ewn l Z a0 hw [] ar a1 va vk (3 : Int32) [(.int v0), (.int v1), (.int v2)] (.int 0) b1 kc1 (.int 0) v2 cs h1 n0 f2_0 f2_1 f2_2 f2_3 f2_4 A1 V1 C1 K1 f2_5 (by decide) (by decide) (by decide) rfl hv hcs) hZ (ow hw 50 rfl) (ow hw 11 rfl) (by decide) (by decide)) q3a q3c (g := (mkF m 3 #[.val (.ref ar), .val (.ref br), .unset, .unset] [(.ref a1), (.ref ar)])) rfl (by rw [hml]; rfl) (Steps.refl _) (argsL := [(.ref a1)]) (rest := []) (lenOf pd_14 rfl) rfl (Nat.le_of_eq rfl) (hb hby d9_3) (fun _ _ => ⟨rfl, e1, (by decide : 2 + 0 ≤ _), (by decide : 8 + 0 ≤ _)⟩)
  dsimp only [Pt.U, Pt.locs, Pt.cells, Pt.slots] at X3 l3 y3 z3 st3 hQ3
  subst l3 y3 z3
  obtain ⟨rfl, N3q, K3⟩ := hQ3
  have f4_0 := Nat.le_trans f2_0 K3.1
  have f4_1 := f2_1.keep K3
  have f4_2 := f2_2.keep K3 nin0
  have f4_3 := f2_3.keep K3 nin0
  have f4_4 := f2_4.keep K3 nin0
  have f4_5 := Sta_keep0 f2_5 K3
  have f4_6 := Sta_keep0 f2_6 K3
  have f4_7 := f2_7.trans K3 all0
  have f4_8 := CHv.keep K3 sf0 f2_8
  have f4_9 := f2_9.trans (CHr.keep K3 sf0 f2_8)
  have f4_10 := Nat.le_trans f2_10 K3.1
  have f4_11 := A1.keep K3
  have f4_12 := C1.keep K3 nin0
  have f4_13 := V1.keep K3 nin0
  have f4_14 := K1.keep K3 nin0
  have N3 := Fr.app N0 N3q
  refine Wp.back (U' := (T3.setTop (mkF m 6 #[.val (.ref ar), .val (.ref br), .unset, .unset] [(.int 0)]))) (fun t k => st3.trans k) ?_
  refine Wp.back (U' := (T3.setTop (mkF m 19 #[.val (.ref ar), .val (.ref br), .unset, .unset] [(.ref ar)]))) (fun t k => XS.ifYes X3.here hx rfl (pc0 := 6) (pc' := 18) rfl (hb hby d9_6) rfl ((if0 _ _).trans (teq (by decide)).1) (by decide) (by decide) (XS.aloadN X3.here hx rfl (hb hby d9_18) rfl rfl k)) ?_
  obtain ⟨cq5, kq5, q5a, q5b, q5c⟩ := isOf hZ rfl f4_1
  obtain ⟨_, _, ⟨T5, L5, k5, n5⟩, -, X5, ⟨Lc5, hQ5, l5, y5, z5⟩, st5⟩ := X3.virtualBack hx (y := Y9) (z := Y9) hown (mvT hZ (ow hw 70 rfl)) (mvT hZ (ow hw 52 rfl)) (notFace_of_selects (args := #[]) (mvT hZ (ow hw 54 rfl))) (mvT hZ (ow hw 54 rfl)) (mvT hZ (ow hw 53 rfl)) (by decide) (backOf (W := 0) (rm_len l Z a0 hw [] ar va vk (3 : Int32) [(.int v0), (.int v1), (.int v2)] (.int 0) cs T3.heap n0 f4_0 f4_1 f4_2 f4_3 f4_4 f4_5 hcs) hZ (ow hw 55 rfl) (ow hw 11 rfl) (by decide) (by decide)) q5a q5c (g := (mkF m 19 #[.val (.ref ar), .val (.ref br), .unset, .unset] [(.ref ar)])) rfl (by rw [hml]; rfl) (Steps.refl _) (argsL := []) (rest := []) (lenOf pd_6 rfl) rfl (Nat.le_of_eq rfl) (hb hby d9_19) (fun _ _ => ⟨rfl, rfl, (by decide : 2 + 0 ≤ _), (by decide : 8 + 0 ≤ _)⟩)
  dsimp only [Pt.U, Pt.locs, Pt.cells, Pt.slots] at X5 l5 y5 z5 st5 hQ5
  subst l5 y5 z5
  obtain ⟨rfl, N5q, K5⟩ := hQ5
  have f6_0 := Nat.le_trans f4_0 K5.1
  have f6_1 := f4_1.keep K5
  have f6_2 := f4_2.keep K5 nin0
  have f6_3 := f4_3.keep K5 nin0
  have f6_4 := f4_4.keep K5 nin0
  have f6_5 := Sta_keep0 f4_5 K5
  have f6_6 := Sta_keep0 f4_6 K5
  have f6_7 := f4_7.trans K5 all0
  have f6_8 := CHv.keep K5 sf0 f4_8
  have f6_9 := f4_9.trans (CHr.keep K5 sf0 f4_8)
  have f6_10 := Nat.le_trans f4_10 K5.1
  have f6_11 := f4_11.keep K5
  have f6_12 := f4_12.keep K5 nin0
  have f6_13 := f4_13.keep K5 nin0
  have f6_14 := f4_14.keep K5 nin0
  have N5 := Fr.app N3 N5q
  refine Wp.back (U' := (T5.setTop (mkF m 22 #[.val (.ref ar), .val (.ref br), .unset, .unset] [(.int 3)]))) (fun t k => st5.trans k) ?_
  refine Wp.back (U' := (T5.setTop (mkF m 50 #[.val (.ref ar), .val (.ref br), .val (.int 3), .val (.int 0)] [(.int 0), (.ref ar)]))) (fun t k => XS.istoreN X5.here hx rfl (hb hby d9_22) rfl (l' := #[.val (.ref ar), .val (.ref br), .val (.int 3), .unset]) rfl (XS.iloadN X5.here hx rfl (hb hby d9_23) rfl (XS.ifYes X5.here hx rfl (pc0 := 24) (pc' := 41) rfl (hb hby d9_24) rfl ((if0 _ _).trans (feq (by decide)).2) (by decide) (by decide) (XT.iconstV X5.here hx rfl 0 (hb hby d9_41) (by decide) (XS.istoreN X5.here hx rfl (hb hby d9_42) rfl (l' := #[.val (.ref ar), .val (.ref br), .val (.int 3), .val (.int 0)]) rfl (XS.iloadN X5.here hx rfl (hb hby d9_43) rfl (XS.iloadN X5.here hx rfl (hb hby d9_44) rfl (XS.icmpNo X5.here hx rfl (hb hby d9_45) rfl (tlt (by decide)).2.1 (XS.aloadN X5.here hx rfl (hb hby d9_48) rfl rfl (XS.iloadN X5.here hx rfl (hb hby d9_49) rfl k)))))))))) ?_
  obtain ⟨cq7, kq7, q7a, q7b, q7c⟩ := isOf hZ rfl f6_1
  obtain ⟨_, _, ⟨T7, L7, k7, n7⟩, -, X7, ⟨Lc7, hQ7, l7, y7, z7⟩, st7⟩ := X5.virtualBack hx (y := Y11) (z := Y11) hown (mvT hZ (ow hw 71 rfl)) (mvT hZ (ow hw 72 rfl)) (notFace_of_selects (args := #[]) (mvT hZ (ow hw 74 rfl))) (mvT hZ (ow hw 74 rfl)) (mvT hZ (ow hw 73 rfl)) (by decide) (backOf (W := 0) (rm_sch l Z a0 hw [] ar (0 : Int32) va cs vk (3 : Int32) [(.int v0), (.int v1), (.int v2)] (.int 0) v0 fm T5.heap n0 f6_0 f6_1 f6_2 f6_3 f6_4 f6_5 f6_6 isr_fm (by decide) (by decide) rfl hcs) hZ (ow hw 75 rfl) (ow hw 11 rfl) (by decide) (by decide)) q7a q7c (g := (mkF m 50 #[.val (.ref ar), .val (.ref br), .val (.int 3), .val (.int 0)] [(.int 0), (.ref ar)])) rfl (by rw [hml]; rfl) (Steps.refl _) (argsL := [(.int 0)]) (rest := []) (lenOf pd_15 rfl) rfl (Nat.le_of_eq rfl) (hb hby d9_50) (fun _ _ => ⟨rfl, rfl, (by decide : 2 + 0 ≤ _), (by decide : 8 + 0 ≤ _)⟩)
  dsimp only [Pt.U, Pt.locs, Pt.cells, Pt.slots] at X7 l7 y7 z7 st7 hQ7
  subst l7 y7 z7
  obtain ⟨rfl, N7q, K7⟩ := hQ7
  have f8_0 := Nat.le_trans f6_0 K7.1
  have f8_1 := f6_1.keep K7
  have f8_2 := f6_2.keep K7 nin0
  have f8_3 := f6_3.keep K7 nin0
  have f8_4 := f6_4.keep K7 nin0
  have f8_5 := Sta_keep0 f6_5 K7
  have f8_6 := Sta_keep0 f6_6 K7
  have f8_7 := f6_7.trans K7 all0
  have f8_8 := CHv.keep K7 sf0 f6_8
  have f8_9 := f6_9.trans (CHr.keep K7 sf0 f6_8)
  have f8_10 := Nat.le_trans f6_10 K7.1
  have f8_11 := f6_11.keep K7
  have f8_12 := f6_12.keep K7 nin0
  have f8_13 := f6_13.keep K7 nin0
  have f8_14 := f6_14.keep K7 nin0
  have N7 := Fr.app N5 N7q
  refine Wp.back (U' := (T7.setTop (mkF m 53 #[.val (.ref ar), .val (.ref br), .val (.int 3), .val (.int 0)] [(.int (nar .char (nar .char ((v0 &&& (255 : Int32))).toUInt32.toUInt16.toUInt32.toInt32)))]))) (fun t k => st7.trans k) ?_
  obtain ⟨_, _, ⟨T9, L9, k9, n9⟩, -, X9, ⟨Lc9, hQ9, l9, y9, z9⟩, st9⟩ := Jvm.LawKit.callS X7 hx (y := Y1) hown (mvT hZ (ow hw 93 rfl)) (mvT hZ (ow hw 94 rfl)) (mvT hZ (ow hw 43 rfl)) (mvT hZ (ow hw 95 rfl)) (by decide) (backOf (W := 0) (rm_f_ihd l Z a0 hw [] (nar .char (nar .char ((v0 &&& (255 : Int32))).toUInt32.toUInt16.toUInt32.toInt32)) T7.heap n0 f8_0 ) hZ (ow hw 95 rfl) (ow hw 43 rfl) (by decide) (by decide)) (g := (mkF m 53 #[.val (.ref ar), .val (.ref br), .val (.int 3), .val (.int 0)] [(.int (nar .char (nar .char ((v0 &&& (255 : Int32))).toUInt32.toUInt16.toUInt32.toInt32)))])) rfl (by rw [hml]; rfl) (argsL := [(.int (nar .char (nar .char ((v0 &&& (255 : Int32))).toUInt32.toUInt16.toUInt32.toInt32)))]) (rest := []) (lenOf pd_16 rfl) rfl (Nat.le_of_eq rfl) (hb hby d9_53) (fun _ _ => ⟨rfl, rfl, (by decide : 2 + 0 ≤ _), (by decide : 8 + 0 ≤ _)⟩)
  dsimp only [Pt.U, Pt.locs, Pt.cells, Pt.slots] at X9 l9 y9 z9 st9 hQ9
  subst l9 y9 z9
  obtain ⟨rfl, N9q, e9⟩ := hQ9
  have N9 := Fr.app N7 N9q
  refine Wp.back (U' := (T9.setTop (mkF m 56 #[.val (.ref ar), .val (.ref br), .val (.int 3), .val (.int 0)] [(.int (f_ihd (nar .char (nar .char ((v0 &&& (255 : Int32))).toUInt32.toUInt16.toUInt32.toInt32))))]))) st9 ?_
  refine Wp.back (U' := (T9.setTop (mkF m 50 #[.val (.ref ar), .val (.ref br), .val (.int 3), .val (.int 1)] [(.int 1), (.ref ar)]))) (fun t k => XS.ifYes X9.here hx rfl (pc0 := 56) (pc' := 76) rfl (hb hby d9_56) rfl ((if0 _ _).trans (feq hd0).2) (by decide) (by decide) (XT.iincV X9.here hx rfl 1 (hb hby d9_76) (by decide) rfl (l' := #[.val (.ref ar), .val (.ref br), .val (.int 3), .val (.int 1)]) rfl (XS.goto X9.here hx rfl (pc0 := 79) (pc' := 43) rfl (hb hby d9_79) (by decide) (by decide) (XS.iloadN X9.here hx rfl (hb hby d9_43) rfl (XS.iloadN X9.here hx rfl (hb hby d9_44) rfl (XS.icmpNo X9.here hx rfl (hb hby d9_45) rfl (tlt (by decide)).2.1 (XS.aloadN X9.here hx rfl (hb hby d9_48) rfl rfl (XS.iloadN X9.here hx rfl (hb hby d9_49) rfl k)))))))) ?_
  obtain ⟨cq10, kq10, q10a, q10b, q10c⟩ := isOf hZ e9 f8_1
  obtain ⟨_, _, ⟨T10, L10, k10, n10⟩, -, X10, ⟨Lc10, hQ10, l10, y10, z10⟩, st10⟩ := X9.virtualBack hx (y := Y11) (z := Y11) hown (mvT hZ (ow hw 71 rfl)) (mvT hZ (ow hw 72 rfl)) (notFace_of_selects (args := #[]) (mvT hZ (ow hw 74 rfl))) (mvT hZ (ow hw 74 rfl)) (mvT hZ (ow hw 73 rfl)) (by decide) (backOf (W := 0) (rm_sch l Z a0 hw [] ar (1 : Int32) va cs vk (3 : Int32) [(.int v0), (.int v1), (.int v2)] (.int 0) v1 fm T7.heap n0 f8_0 f8_1 f8_2 f8_3 f8_4 f8_5 f8_6 isr_fm (by decide) (by decide) rfl hcs) hZ (ow hw 75 rfl) (ow hw 11 rfl) (by decide) (by decide)) q10a q10c (g := (mkF m 50 #[.val (.ref ar), .val (.ref br), .val (.int 3), .val (.int 1)] [(.int 1), (.ref ar)])) rfl (by rw [hml]; rfl) (Steps.refl _) (argsL := [(.int 1)]) (rest := []) (lenOf pd_15 rfl) rfl (Nat.le_of_eq rfl) (hb hby d9_50) (fun _ _ => ⟨rfl, e9, (by decide : 2 + 0 ≤ _), (by decide : 8 + 0 ≤ _)⟩)
  dsimp only [Pt.U, Pt.locs, Pt.cells, Pt.slots] at X10 l10 y10 z10 st10 hQ10
  subst l10 y10 z10
  obtain ⟨rfl, N10q, K10⟩ := hQ10
  have f11_0 := Nat.le_trans f8_0 K10.1
  have f11_1 := f8_1.keep K10
  have f11_2 := f8_2.keep K10 nin0
  have f11_3 := f8_3.keep K10 nin0
  have f11_4 := f8_4.keep K10 nin0
  have f11_5 := Sta_keep0 f8_5 K10
  have f11_6 := Sta_keep0 f8_6 K10
  have f11_7 := f8_7.trans K10 all0
  have f11_8 := CHv.keep K10 sf0 f8_8
  have f11_9 := f8_9.trans (CHr.keep K10 sf0 f8_8)
  have f11_10 := Nat.le_trans f8_10 K10.1
  have f11_11 := f8_11.keep K10
  have f11_12 := f8_12.keep K10 nin0
  have f11_13 := f8_13.keep K10 nin0
  have f11_14 := f8_14.keep K10 nin0
  have N10 := Fr.app N9 N10q
  refine Wp.back (U' := (T10.setTop (mkF m 53 #[.val (.ref ar), .val (.ref br), .val (.int 3), .val (.int 1)] [(.int (nar .char (nar .char ((v1 &&& (255 : Int32))).toUInt32.toUInt16.toUInt32.toInt32)))]))) (fun t k => st10.trans k) ?_
  obtain ⟨_, _, ⟨T12, L12, k12, n12⟩, -, X12, ⟨Lc12, hQ12, l12, y12, z12⟩, st12⟩ := Jvm.LawKit.callS X10 hx (y := Y1) hown (mvT hZ (ow hw 93 rfl)) (mvT hZ (ow hw 94 rfl)) (mvT hZ (ow hw 43 rfl)) (mvT hZ (ow hw 95 rfl)) (by decide) (backOf (W := 0) (rm_f_ihd l Z a0 hw [] (nar .char (nar .char ((v1 &&& (255 : Int32))).toUInt32.toUInt16.toUInt32.toInt32)) T10.heap n0 f11_0 ) hZ (ow hw 95 rfl) (ow hw 43 rfl) (by decide) (by decide)) (g := (mkF m 53 #[.val (.ref ar), .val (.ref br), .val (.int 3), .val (.int 1)] [(.int (nar .char (nar .char ((v1 &&& (255 : Int32))).toUInt32.toUInt16.toUInt32.toInt32)))])) rfl (by rw [hml]; rfl) (argsL := [(.int (nar .char (nar .char ((v1 &&& (255 : Int32))).toUInt32.toUInt16.toUInt32.toInt32)))]) (rest := []) (lenOf pd_16 rfl) rfl (Nat.le_of_eq rfl) (hb hby d9_53) (fun _ _ => ⟨rfl, rfl, (by decide : 2 + 0 ≤ _), (by decide : 8 + 0 ≤ _)⟩)
  dsimp only [Pt.U, Pt.locs, Pt.cells, Pt.slots] at X12 l12 y12 z12 st12 hQ12
  subst l12 y12 z12
  obtain ⟨rfl, N12q, e12⟩ := hQ12
  have N12 := Fr.app N10 N12q
  refine Wp.back (U' := (T12.setTop (mkF m 56 #[.val (.ref ar), .val (.ref br), .val (.int 3), .val (.int 1)] [(.int (f_ihd (nar .char (nar .char ((v1 &&& (255 : Int32))).toUInt32.toUInt16.toUInt32.toInt32))))]))) st12 ?_
  refine Wp.back (U' := (T12.setTop (mkF m 50 #[.val (.ref ar), .val (.ref br), .val (.int 3), .val (.int 2)] [(.int 2), (.ref ar)]))) (fun t k => XS.ifYes X12.here hx rfl (pc0 := 56) (pc' := 76) rfl (hb hby d9_56) rfl ((if0 _ _).trans (feq hd1).2) (by decide) (by decide) (XT.iincV X12.here hx rfl 1 (hb hby d9_76) (by decide) rfl (l' := #[.val (.ref ar), .val (.ref br), .val (.int 3), .val (.int 2)]) rfl (XS.goto X12.here hx rfl (pc0 := 79) (pc' := 43) rfl (hb hby d9_79) (by decide) (by decide) (XS.iloadN X12.here hx rfl (hb hby d9_43) rfl (XS.iloadN X12.here hx rfl (hb hby d9_44) rfl (XS.icmpNo X12.here hx rfl (hb hby d9_45) rfl (tlt (by decide)).2.1 (XS.aloadN X12.here hx rfl (hb hby d9_48) rfl rfl (XS.iloadN X12.here hx rfl (hb hby d9_49) rfl k)))))))) ?_
  obtain ⟨cq13, kq13, q13a, q13b, q13c⟩ := isOf hZ e12 f11_1
  obtain ⟨_, _, ⟨T13, L13, k13, n13⟩, -, X13, ⟨Lc13, hQ13, l13, y13, z13⟩, st13⟩ := X12.virtualBack hx (y := Y11) (z := Y11) hown (mvT hZ (ow hw 71 rfl)) (mvT hZ (ow hw 72 rfl)) (notFace_of_selects (args := #[]) (mvT hZ (ow hw 74 rfl))) (mvT hZ (ow hw 74 rfl)) (mvT hZ (ow hw 73 rfl)) (by decide) (backOf (W := 0) (rm_sch l Z a0 hw [] ar (2 : Int32) va cs vk (3 : Int32) [(.int v0), (.int v1), (.int v2)] (.int 0) v2 fm T10.heap n0 f11_0 f11_1 f11_2 f11_3 f11_4 f11_5 f11_6 isr_fm (by decide) (by decide) rfl hcs) hZ (ow hw 75 rfl) (ow hw 11 rfl) (by decide) (by decide)) q13a q13c (g := (mkF m 50 #[.val (.ref ar), .val (.ref br), .val (.int 3), .val (.int 2)] [(.int 2), (.ref ar)])) rfl (by rw [hml]; rfl) (Steps.refl _) (argsL := [(.int 2)]) (rest := []) (lenOf pd_15 rfl) rfl (Nat.le_of_eq rfl) (hb hby d9_50) (fun _ _ => ⟨rfl, e12, (by decide : 2 + 0 ≤ _), (by decide : 8 + 0 ≤ _)⟩)
  dsimp only [Pt.U, Pt.locs, Pt.cells, Pt.slots] at X13 l13 y13 z13 st13 hQ13
  subst l13 y13 z13
  obtain ⟨rfl, N13q, K13⟩ := hQ13
  have f14_0 := Nat.le_trans f11_0 K13.1
  have f14_1 := f11_1.keep K13
  have f14_2 := f11_2.keep K13 nin0
  have f14_3 := f11_3.keep K13 nin0
  have f14_4 := f11_4.keep K13 nin0
  have f14_5 := Sta_keep0 f11_5 K13
  have f14_6 := Sta_keep0 f11_6 K13
  have f14_7 := f11_7.trans K13 all0
  have f14_8 := CHv.keep K13 sf0 f11_8
  have f14_9 := f11_9.trans (CHr.keep K13 sf0 f11_8)
  have f14_10 := Nat.le_trans f11_10 K13.1
  have f14_11 := f11_11.keep K13
  have f14_12 := f11_12.keep K13 nin0
  have f14_13 := f11_13.keep K13 nin0
  have f14_14 := f11_14.keep K13 nin0
  have N13 := Fr.app N12 N13q
  refine Wp.back (U' := (T13.setTop (mkF m 53 #[.val (.ref ar), .val (.ref br), .val (.int 3), .val (.int 2)] [(.int (nar .char (nar .char ((v2 &&& (255 : Int32))).toUInt32.toUInt16.toUInt32.toInt32)))]))) (fun t k => st13.trans k) ?_
  obtain ⟨_, _, ⟨T15, L15, k15, n15⟩, -, X15, ⟨Lc15, hQ15, l15, y15, z15⟩, st15⟩ := Jvm.LawKit.callS X13 hx (y := Y1) hown (mvT hZ (ow hw 93 rfl)) (mvT hZ (ow hw 94 rfl)) (mvT hZ (ow hw 43 rfl)) (mvT hZ (ow hw 95 rfl)) (by decide) (backOf (W := 0) (rm_f_ihd l Z a0 hw [] (nar .char (nar .char ((v2 &&& (255 : Int32))).toUInt32.toUInt16.toUInt32.toInt32)) T13.heap n0 f14_0 ) hZ (ow hw 95 rfl) (ow hw 43 rfl) (by decide) (by decide)) (g := (mkF m 53 #[.val (.ref ar), .val (.ref br), .val (.int 3), .val (.int 2)] [(.int (nar .char (nar .char ((v2 &&& (255 : Int32))).toUInt32.toUInt16.toUInt32.toInt32)))])) rfl (by rw [hml]; rfl) (argsL := [(.int (nar .char (nar .char ((v2 &&& (255 : Int32))).toUInt32.toUInt16.toUInt32.toInt32)))]) (rest := []) (lenOf pd_16 rfl) rfl (Nat.le_of_eq rfl) (hb hby d9_53) (fun _ _ => ⟨rfl, rfl, (by decide : 2 + 0 ≤ _), (by decide : 8 + 0 ≤ _)⟩)
  dsimp only [Pt.U, Pt.locs, Pt.cells, Pt.slots] at X15 l15 y15 z15 st15 hQ15
  subst l15 y15 z15
  obtain ⟨rfl, N15q, e15⟩ := hQ15
  have N15 := Fr.app N13 N15q
  refine Wp.back (U' := (T15.setTop (mkF m 56 #[.val (.ref ar), .val (.ref br), .val (.int 3), .val (.int 2)] [(.int (f_ihd (nar .char (nar .char ((v2 &&& (255 : Int32))).toUInt32.toUInt16.toUInt32.toInt32))))]))) st15 ?_
  refine Wp.back (U' := (T15.setTop (mkF m 85 #[.val (.ref ar), .val (.ref br), .val (.int 3), .val (.int 3)] [(.int 3), (.int 0), (.ref ar)]))) (fun t k => XS.ifYes X15.here hx rfl (pc0 := 56) (pc' := 76) rfl (hb hby d9_56) rfl ((if0 _ _).trans (feq hd2).2) (by decide) (by decide) (XT.iincV X15.here hx rfl 1 (hb hby d9_76) (by decide) rfl (l' := #[.val (.ref ar), .val (.ref br), .val (.int 3), .val (.int 3)]) rfl (XS.goto X15.here hx rfl (pc0 := 79) (pc' := 43) rfl (hb hby d9_79) (by decide) (by decide) (XS.iloadN X15.here hx rfl (hb hby d9_43) rfl (XS.iloadN X15.here hx rfl (hb hby d9_44) rfl (XS.icmpYes X15.here hx rfl (pc0 := 45) (pc' := 82) rfl (hb hby d9_45) rfl (flt (by decide)).2.1 (by decide) (by decide) (XS.aloadN X15.here hx rfl (hb hby d9_82) rfl rfl (XT.iconstV X15.here hx rfl 0 (hb hby d9_83) (by decide) (XS.iloadN X15.here hx rfl (hb hby d9_84) rfl k))))))))) ?_
  obtain ⟨cq16, kq16, q16a, q16b, q16c⟩ := isOf hZ e15 f14_1
  obtain ⟨_, _, ⟨T16, L16, k16, n16⟩, -, X16, ⟨Lc16, hQ16, l16, y16, z16⟩, st16⟩ := X15.virtualBack hx (y := Y20) (z := Y20) hown (mvT hZ (ow hw 96 rfl)) (mvT hZ (ow hw 97 rfl)) (notFace_of_selects (args := #[]) (mvT hZ (ow hw 99 rfl))) (mvT hZ (ow hw 99 rfl)) (mvT hZ (ow hw 98 rfl)) (by decide) (backOf (W := 0) (rm_sq l Z a0 hw [] ar (3 : Int32) va cs fm vk [(.int v0), (.int v1), (.int v2)] (.int 0) T13.heap n0 f14_0 f14_1 f14_2 f14_3 f14_4 f14_5 f14_6 isr_fm (by decide) hcs) hZ (ow hw 100 rfl) (ow hw 11 rfl) (by decide) (by decide)) q16a q16c (g := (mkF m 85 #[.val (.ref ar), .val (.ref br), .val (.int 3), .val (.int 3)] [(.int 3), (.int 0), (.ref ar)])) rfl (by rw [hml]; rfl) (Steps.refl _) (argsL := [(.int 0), (.int 3)]) (rest := []) (lenOf pd_17 rfl) rfl (Nat.le_of_eq rfl) (hb hby d9_85) (fun _ _ => ⟨rfl, e15, (by decide : 2 + 0 ≤ _), (by decide : 8 + 0 ≤ _)⟩)
  dsimp only [Pt.U, Pt.locs, Pt.cells, Pt.slots] at X16 l16 y16 z16 st16 hQ16
  subst l16 y16 z16
  obtain ⟨rfl, N16q, K16⟩ := hQ16
  have f17_0 := Nat.le_trans f14_0 K16.1
  have f17_1 := f14_1.keep K16
  have f17_2 := f14_2.keep K16 nin0
  have f17_3 := f14_3.keep K16 nin0
  have f17_4 := f14_4.keep K16 nin0
  have f17_5 := Sta_keep0 f14_5 K16
  have f17_6 := Sta_keep0 f14_6 K16
  have f17_7 := f14_7.trans K16 all0
  have f17_8 := CHv.keep K16 sf0 f14_8
  have f17_9 := f14_9.trans (CHr.keep K16 sf0 f14_8)
  have f17_10 := Nat.le_trans f14_10 K16.1
  have f17_11 := f14_11.keep K16
  have f17_12 := f14_12.keep K16 nin0
  have f17_13 := f14_13.keep K16 nin0
  have f17_14 := f14_14.keep K16 nin0
  have N16 := Fr.app N15 N16q
  refine Wp.back (U' := (T16.setTop (mkF m 88 #[.val (.ref ar), .val (.ref br), .val (.int 3), .val (.int 3)] [(.ref ar)]))) (fun t k => st16.trans k) ?_
  obtain ⟨fs, hr, hrun, hended, hend⟩ := X16.leaveW hS1 f17_10 (v := (some (.ref ar))) (fun h => by rw [hret] at h; cases h)
  refine Wp.done (retOut X16 hx hret rfl (Or.inr (Or.inr (Or.inr (Or.inr ⟨rfl, rfl, rfl⟩)))) (hb hby d9_88) hr) hrun hended ⟨_, _, rfl, ?_, ?_, hend.1, hend.2.1, hend.2.2.1, hend.2.2.2.mono (by decide) (by decide)⟩
  rotate_left
  · show CHr Z consts_1 s.vm s.heap T16.vm T16.heap
    rw [hh]
    exact f17_9.trans (CHv.at X16 hZ hEL f17_8)
  show Q_dgn3 Z ar br va cs fm vk v0 v1 v2 h0 n0 _ T16.heap _
  exact ⟨rfl, N16, f17_7⟩
def Q_dgn4 (Z : State) (ar : Addr) (br : Addr) (va : Addr) (cs : Int32) (fm : Value) (vk : ClassId) (v0 : Int32) (v1 : Int32) (v2 : Int32) (v3 : Int32) (h0 : Heap) (n0 : Nat) (v : Option Value) (h : Heap) (L : List Loc) : Prop := v = some (.ref ar) ∧ Fr n0 L ∧ Keep h0 h []
set_option maxRecDepth 65536 in
set_option maxHeartbeats 40000000 in
theorem rm_dgn4 (l : Launch) (Z : State) (a0 : Array Value) (hw : ∀ d ∈ tables_1, d.before a0 Z = true) (ws : List Jvm.Cond) (ar : Addr) (br : Addr) (va : Addr) (cs : Int32) (fm : Value) (vk : ClassId) (v0 : Int32) (v1 : Int32) (v2 : Int32) (v3 : Int32) (h0 : Heap) (n0 : Nat) (Z0 : n0 ≤ h0.size) (H0 : Exa Z h0 ar "java/lang/String") (H1 : Fld Z h0 ar "java/lang/String" "value" "[B" (.ref va)) (H2 : Fld Z h0 ar "java/lang/String" "coder" "B" (.int 0)) (H3 : Arv Z h0 va vk .byte (4 : Int32) [(.int v0), (.int v1), (.int v2), (.int v3)] (.int 0)) (H4 : Sta Z h0 "java/lang/String" "COMPACT_STRINGS" "Z" (.int cs)) (H5 : Sta Z h0 "jdk/internal/util/Preconditions" "SIOOBE_FORMATTER" "Ljava/util/function/BiFunction;" fm) (isr_fm : fm.isRef = true) (hd0 : ¬ (f_ihd (nar .char (nar .char ((v0 &&& (255 : Int32))).toUInt32.toUInt16.toUInt32.toInt32))) = (0 : Int32)) (hd1 : ¬ (f_ihd (nar .char (nar .char ((v1 &&& (255 : Int32))).toUInt32.toUInt16.toUInt32.toInt32))) = (0 : Int32)) (hd2 : ¬ (f_ihd (nar .char (nar .char ((v2 &&& (255 : Int32))).toUInt32.toUInt16.toUInt32.toInt32))) = (0 : Int32)) (hd3 : ¬ (f_ihd (nar .char (nar .char ((v3 &&& (255 : Int32))).toUInt32.toUInt16.toUInt32.toInt32))) = (0 : Int32)) (hv : ¬ v3 = (10 : Int32)) (hcs : ¬ cs = (0 : Int32)) :
    MetFree l Y21 (head1 (Jvm.Cond.code Y21 prog_36_method_3_code 4 (some (.object "java/lang/String")) :: ws) ({ frames := 4, cells := 2, slots := 8, locals := 59 } : Room)) (fun a U => a = #[(.ref ar), (.ref br)] ∧ Z.Warmed39 U.vm ∧ U.heap = h0 ∧ CHv Z consts_1 U.vm h0) (fun _ _ _ _ _ => True) (fun _ U o U' => ∃ v L, o = .returned v ∧ Q_dgn4 Z ar br va cs fm vk v0 v1 v2 v3 h0 n0 v U'.heap L ∧ CHr Z consts_1 U.vm U.heap U'.vm U'.heap ∧ ReturnedEndW U o U' L ({ frames := 4, cells := 2, slots := 8, locals := 59 } : Room).cells ({ frames := 4, cells := 2, slots := 8, locals := 59 } : Room).slots) := by
  refine MetFree.of_bodySF (plainFor_of_name pn9) hisR ?_
  intro p e s m args below meth c s₁ Bd hml0 hP hK
  obtain ⟨rfl, hZ, hh, hCH⟩ := hP
  have hx := Bd.exec
  have hby := Bd.bytes
  have hret := Bd.returns
  have hlk := Bd.notSynchronized
  have hml : c.maxLocals = 4 := hml0
  have hown : s.vm.findClass "com/example/surebit/surebit/input/HexNumber" = some m.cls := findClass_of_methodNamed Bd.named
  have hnm := (name_of_methodNamed Bd.named Bd.method).1
  have hZ : Z.Warmed39 (s.setVm s.vm).vm := hZ
  have hown : (s.setVm s.vm).vm.findClass "com/example/surebit/surebit/input/HexNumber" = some m.cls := hown
  have hS0 : s.Since s.vm h0.size := (State.WarmedH.refl s).since _
  have hk0 : h0.size ≤ h0.size := Nat.le_refl _
  have CR0 : CHr Z consts_1 s.vm h0 s.vm h0 := CHr.refl hCH
  have hEL : EW Z a0 consts_1 := own_EW hw
  have wS := own_wS hw
  have X0 : Stand p l e ({ frames := 4, cells := 2, slots := 8, locals := 59 } : Room) (s.setVm s.vm) m #[(.ref ar), (.ref br)] below meth c s₁ [] 0 0 := Stand.of_body Bd
  have e0 : s₁.heap = h0 := by rw [← hh, Bd.state]; rfl
  have N0 := Fr.nil n0
  show Wp p e below (fun o s₂ => ∃ v L, o = .returned v ∧ Q_dgn4 Z ar br va cs fm vk v0 v1 v2 v3 h0 n0 v s₂.heap L ∧ CHr Z consts_1 s.vm s.heap s₂.vm s₂.heap ∧ ReturnedEndW s o s₂ L ({ frames := 4, cells := 2, slots := 8, locals := 59 } : Room).cells ({ frames := 4, cells := 2, slots := 8, locals := 59 } : Room).slots) _
  refine Wp.back (U' := (s₁.setTop (mkF m 0 #[.val (.ref ar), .val (.ref br), .unset, .unset] []))) (fun t k => castTop (ef9_RR m ar br) k) ?_
  refine Wp.back (U' := (s₁.setTop (mkF m 1 #[.val (.ref ar), .val (.ref br), .unset, .unset] [(.ref ar)]))) (fun t k => XS.aloadN X0.here hx rfl (hb hby d9_0) rfl rfl k) ?_
  obtain ⟨a1, T1, h1, k1, b1, kc1, X1, e1, E1, hS1, hk1, hZ, hown, A1, C1, V1, K1, la1, lb1, R1, L1, Sf1, st1⟩ := ldcCH X0 hx hZ hown (ow hw 45 rfl) wS e0 hS0 hk0 hEL (List.mem_of_getElem? (i := 0) rfl) hCH (vs := [(.int 10)]) (z := (1 : Int32)) ⟨by decide, rfl⟩ (by decide) rfl (g := (mkF m 1 #[.val (.ref ar), .val (.ref br), .unset, .unset] [(.ref ar)])) rfl (hb hby d9_1) (n := 4) (by decide) (by decide) (by decide) (by decide)
  have f2_0 := Nat.le_trans Z0 E1.1
  have f2_1 := H0.ext E1
  have f2_2 := H1.ext E1
  have f2_3 := H2.ext E1
  have f2_4 := H3.ext E1
  have f2_5 := H4.ext E1
  have f2_6 := H5.ext E1
  have f2_7 := (Keep.refl h0 []).ext E1
  have f2_8 := R1.1
  have f2_9 := CR0.trans R1
  have f2_10 := hk1
  refine Wp.back (U' := (T1.setTop (mkF m 3 #[.val (.ref ar), .val (.ref br), .unset, .unset] [(.ref a1), (.ref ar)]))) st1 ?_
  obtain ⟨cq3, kq3, q3a, q3b, q3c⟩ := isOf hZ e1 f2_1
  obtain ⟨_, _, ⟨T3, L3, k3, n3⟩, -, X3, ⟨Lc3, hQ3, l3, y3, z3⟩, st3⟩ := X1.virtualBack hx (y := Y14) (z := Y14) hown (mvT hZ (ow hw 46 rfl)) (mvT hZ (ow hw 47 rfl)) (notFace_of_selects (args := #[]) (mvT hZ (ow hw 49 rfl))) (mvT hZ (ow hw 49 rfl)) (mvT hZ (ow hw 48 rfl)) (by decide) (backOf (W := 0) (rm_ewn l Z a0 hw [] ar a1 va vk (4 : Int32) [(.int v0), (.int v1), (.int v2), (.int v3)] (.int 0) b1 kc1 (.int 0) v3 cs h1 n0 f2_0 f2_1 f2_2 f2_3 f2_4 A1 V1 C1 K1 f2_5 (by decide) (by decide) (by decide) rfl hv hcs) hZ (ow hw 50 rfl) (ow hw 11 rfl) (by decide) (by decide)) q3a q3c (g := (mkF m 3 #[.val (.ref ar), .val (.ref br), .unset, .unset] [(.ref a1), (.ref ar)])) rfl (by rw [hml]; rfl) (Steps.refl _) (argsL := [(.ref a1)]) (rest := []) (lenOf pd_14 rfl) rfl (Nat.le_of_eq rfl) (hb hby d9_3) (fun _ _ => ⟨rfl, e1, (by decide : 2 + 0 ≤ _), (by decide : 8 + 0 ≤ _)⟩)
  dsimp only [Pt.U, Pt.locs, Pt.cells, Pt.slots] at X3 l3 y3 z3 st3 hQ3
  subst l3 y3 z3
  obtain ⟨rfl, N3q, K3⟩ := hQ3
  have f4_0 := Nat.le_trans f2_0 K3.1
  have f4_1 := f2_1.keep K3
  have f4_2 := f2_2.keep K3 nin0
  have f4_3 := f2_3.keep K3 nin0
  have f4_4 := f2_4.keep K3 nin0
  have f4_5 := Sta_keep0 f2_5 K3
  have f4_6 := Sta_keep0 f2_6 K3
  have f4_7 := f2_7.trans K3 all0
  have f4_8 := CHv.keep K3 sf0 f2_8
  have f4_9 := f2_9.trans (CHr.keep K3 sf0 f2_8)
  have f4_10 := Nat.le_trans f2_10 K3.1
  have f4_11 := A1.keep K3
  have f4_12 := C1.keep K3 nin0
  have f4_13 := V1.keep K3 nin0
  have f4_14 := K1.keep K3 nin0
  have N3 := Fr.app N0 N3q
  refine Wp.back (U' := (T3.setTop (mkF m 6 #[.val (.ref ar), .val (.ref br), .unset, .unset] [(.int 0)]))) (fun t k => st3.trans k) ?_
  refine Wp.back (U' := (T3.setTop (mkF m 19 #[.val (.ref ar), .val (.ref br), .unset, .unset] [(.ref ar)]))) (fun t k => XS.ifYes X3.here hx rfl (pc0 := 6) (pc' := 18) rfl (hb hby d9_6) rfl ((if0 _ _).trans (teq (by decide)).1) (by decide) (by decide) (XS.aloadN X3.here hx rfl (hb hby d9_18) rfl rfl k)) ?_
  obtain ⟨cq5, kq5, q5a, q5b, q5c⟩ := isOf hZ rfl f4_1
  obtain ⟨_, _, ⟨T5, L5, k5, n5⟩, -, X5, ⟨Lc5, hQ5, l5, y5, z5⟩, st5⟩ := X3.virtualBack hx (y := Y9) (z := Y9) hown (mvT hZ (ow hw 70 rfl)) (mvT hZ (ow hw 52 rfl)) (notFace_of_selects (args := #[]) (mvT hZ (ow hw 54 rfl))) (mvT hZ (ow hw 54 rfl)) (mvT hZ (ow hw 53 rfl)) (by decide) (backOf (W := 0) (rm_len l Z a0 hw [] ar va vk (4 : Int32) [(.int v0), (.int v1), (.int v2), (.int v3)] (.int 0) cs T3.heap n0 f4_0 f4_1 f4_2 f4_3 f4_4 f4_5 hcs) hZ (ow hw 55 rfl) (ow hw 11 rfl) (by decide) (by decide)) q5a q5c (g := (mkF m 19 #[.val (.ref ar), .val (.ref br), .unset, .unset] [(.ref ar)])) rfl (by rw [hml]; rfl) (Steps.refl _) (argsL := []) (rest := []) (lenOf pd_6 rfl) rfl (Nat.le_of_eq rfl) (hb hby d9_19) (fun _ _ => ⟨rfl, rfl, (by decide : 2 + 0 ≤ _), (by decide : 8 + 0 ≤ _)⟩)
  dsimp only [Pt.U, Pt.locs, Pt.cells, Pt.slots] at X5 l5 y5 z5 st5 hQ5
  subst l5 y5 z5
  obtain ⟨rfl, N5q, K5⟩ := hQ5
  have f6_0 := Nat.le_trans f4_0 K5.1
  have f6_1 := f4_1.keep K5
  have f6_2 := f4_2.keep K5 nin0
  have f6_3 := f4_3.keep K5 nin0
  have f6_4 := f4_4.keep K5 nin0
  have f6_5 := Sta_keep0 f4_5 K5
  have f6_6 := Sta_keep0 f4_6 K5
  have f6_7 := f4_7.trans K5 all0
  have f6_8 := CHv.keep K5 sf0 f4_8
  have f6_9 := f4_9.trans (CHr.keep K5 sf0 f4_8)
  have f6_10 := Nat.le_trans f4_10 K5.1
  have f6_11 := f4_11.keep K5
  have f6_12 := f4_12.keep K5 nin0
  have f6_13 := f4_13.keep K5 nin0
  have f6_14 := f4_14.keep K5 nin0
  have N5 := Fr.app N3 N5q
  refine Wp.back (U' := (T5.setTop (mkF m 22 #[.val (.ref ar), .val (.ref br), .unset, .unset] [(.int 4)]))) (fun t k => st5.trans k) ?_
  refine Wp.back (U' := (T5.setTop (mkF m 50 #[.val (.ref ar), .val (.ref br), .val (.int 4), .val (.int 0)] [(.int 0), (.ref ar)]))) (fun t k => XS.istoreN X5.here hx rfl (hb hby d9_22) rfl (l' := #[.val (.ref ar), .val (.ref br), .val (.int 4), .unset]) rfl (XS.iloadN X5.here hx rfl (hb hby d9_23) rfl (XS.ifYes X5.here hx rfl (pc0 := 24) (pc' := 41) rfl (hb hby d9_24) rfl ((if0 _ _).trans (feq (by decide)).2) (by decide) (by decide) (XT.iconstV X5.here hx rfl 0 (hb hby d9_41) (by decide) (XS.istoreN X5.here hx rfl (hb hby d9_42) rfl (l' := #[.val (.ref ar), .val (.ref br), .val (.int 4), .val (.int 0)]) rfl (XS.iloadN X5.here hx rfl (hb hby d9_43) rfl (XS.iloadN X5.here hx rfl (hb hby d9_44) rfl (XS.icmpNo X5.here hx rfl (hb hby d9_45) rfl (tlt (by decide)).2.1 (XS.aloadN X5.here hx rfl (hb hby d9_48) rfl rfl (XS.iloadN X5.here hx rfl (hb hby d9_49) rfl k)))))))))) ?_
  obtain ⟨cq7, kq7, q7a, q7b, q7c⟩ := isOf hZ rfl f6_1
  obtain ⟨_, _, ⟨T7, L7, k7, n7⟩, -, X7, ⟨Lc7, hQ7, l7, y7, z7⟩, st7⟩ := X5.virtualBack hx (y := Y11) (z := Y11) hown (mvT hZ (ow hw 71 rfl)) (mvT hZ (ow hw 72 rfl)) (notFace_of_selects (args := #[]) (mvT hZ (ow hw 74 rfl))) (mvT hZ (ow hw 74 rfl)) (mvT hZ (ow hw 73 rfl)) (by decide) (backOf (W := 0) (rm_sch l Z a0 hw [] ar (0 : Int32) va cs vk (4 : Int32) [(.int v0), (.int v1), (.int v2), (.int v3)] (.int 0) v0 fm T5.heap n0 f6_0 f6_1 f6_2 f6_3 f6_4 f6_5 f6_6 isr_fm (by decide) (by decide) rfl hcs) hZ (ow hw 75 rfl) (ow hw 11 rfl) (by decide) (by decide)) q7a q7c (g := (mkF m 50 #[.val (.ref ar), .val (.ref br), .val (.int 4), .val (.int 0)] [(.int 0), (.ref ar)])) rfl (by rw [hml]; rfl) (Steps.refl _) (argsL := [(.int 0)]) (rest := []) (lenOf pd_15 rfl) rfl (Nat.le_of_eq rfl) (hb hby d9_50) (fun _ _ => ⟨rfl, rfl, (by decide : 2 + 0 ≤ _), (by decide : 8 + 0 ≤ _)⟩)
  dsimp only [Pt.U, Pt.locs, Pt.cells, Pt.slots] at X7 l7 y7 z7 st7 hQ7
  subst l7 y7 z7
  obtain ⟨rfl, N7q, K7⟩ := hQ7
  have f8_0 := Nat.le_trans f6_0 K7.1
  have f8_1 := f6_1.keep K7
  have f8_2 := f6_2.keep K7 nin0
  have f8_3 := f6_3.keep K7 nin0
  have f8_4 := f6_4.keep K7 nin0
  have f8_5 := Sta_keep0 f6_5 K7
  have f8_6 := Sta_keep0 f6_6 K7
  have f8_7 := f6_7.trans K7 all0
  have f8_8 := CHv.keep K7 sf0 f6_8
  have f8_9 := f6_9.trans (CHr.keep K7 sf0 f6_8)
  have f8_10 := Nat.le_trans f6_10 K7.1
  have f8_11 := f6_11.keep K7
  have f8_12 := f6_12.keep K7 nin0
  have f8_13 := f6_13.keep K7 nin0
  have f8_14 := f6_14.keep K7 nin0
  have N7 := Fr.app N5 N7q
  refine Wp.back (U' := (T7.setTop (mkF m 53 #[.val (.ref ar), .val (.ref br), .val (.int 4), .val (.int 0)] [(.int (nar .char (nar .char ((v0 &&& (255 : Int32))).toUInt32.toUInt16.toUInt32.toInt32)))]))) (fun t k => st7.trans k) ?_
  obtain ⟨_, _, ⟨T9, L9, k9, n9⟩, -, X9, ⟨Lc9, hQ9, l9, y9, z9⟩, st9⟩ := Jvm.LawKit.callS X7 hx (y := Y1) hown (mvT hZ (ow hw 93 rfl)) (mvT hZ (ow hw 94 rfl)) (mvT hZ (ow hw 43 rfl)) (mvT hZ (ow hw 95 rfl)) (by decide) (backOf (W := 0) (rm_f_ihd l Z a0 hw [] (nar .char (nar .char ((v0 &&& (255 : Int32))).toUInt32.toUInt16.toUInt32.toInt32)) T7.heap n0 f8_0 ) hZ (ow hw 95 rfl) (ow hw 43 rfl) (by decide) (by decide)) (g := (mkF m 53 #[.val (.ref ar), .val (.ref br), .val (.int 4), .val (.int 0)] [(.int (nar .char (nar .char ((v0 &&& (255 : Int32))).toUInt32.toUInt16.toUInt32.toInt32)))])) rfl (by rw [hml]; rfl) (argsL := [(.int (nar .char (nar .char ((v0 &&& (255 : Int32))).toUInt32.toUInt16.toUInt32.toInt32)))]) (rest := []) (lenOf pd_16 rfl) rfl (Nat.le_of_eq rfl) (hb hby d9_53) (fun _ _ => ⟨rfl, rfl, (by decide : 2 + 0 ≤ _), (by decide : 8 + 0 ≤ _)⟩)
  dsimp only [Pt.U, Pt.locs, Pt.cells, Pt.slots] at X9 l9 y9 z9 st9 hQ9
  subst l9 y9 z9
  obtain ⟨rfl, N9q, e9⟩ := hQ9
  have N9 := Fr.app N7 N9q
  refine Wp.back (U' := (T9.setTop (mkF m 56 #[.val (.ref ar), .val (.ref br), .val (.int 4), .val (.int 0)] [(.int (f_ihd (nar .char (nar .char ((v0 &&& (255 : Int32))).toUInt32.toUInt16.toUInt32.toInt32))))]))) st9 ?_
  refine Wp.back (U' := (T9.setTop (mkF m 50 #[.val (.ref ar), .val (.ref br), .val (.int 4), .val (.int 1)] [(.int 1), (.ref ar)]))) (fun t k => XS.ifYes X9.here hx rfl (pc0 := 56) (pc' := 76) rfl (hb hby d9_56) rfl ((if0 _ _).trans (feq hd0).2) (by decide) (by decide) (XT.iincV X9.here hx rfl 1 (hb hby d9_76) (by decide) rfl (l' := #[.val (.ref ar), .val (.ref br), .val (.int 4), .val (.int 1)]) rfl (XS.goto X9.here hx rfl (pc0 := 79) (pc' := 43) rfl (hb hby d9_79) (by decide) (by decide) (XS.iloadN X9.here hx rfl (hb hby d9_43) rfl (XS.iloadN X9.here hx rfl (hb hby d9_44) rfl (XS.icmpNo X9.here hx rfl (hb hby d9_45) rfl (tlt (by decide)).2.1 (XS.aloadN X9.here hx rfl (hb hby d9_48) rfl rfl (XS.iloadN X9.here hx rfl (hb hby d9_49) rfl k)))))))) ?_
  obtain ⟨cq10, kq10, q10a, q10b, q10c⟩ := isOf hZ e9 f8_1
  obtain ⟨_, _, ⟨T10, L10, k10, n10⟩, -, X10, ⟨Lc10, hQ10, l10, y10, z10⟩, st10⟩ := X9.virtualBack hx (y := Y11) (z := Y11) hown (mvT hZ (ow hw 71 rfl)) (mvT hZ (ow hw 72 rfl)) (notFace_of_selects (args := #[]) (mvT hZ (ow hw 74 rfl))) (mvT hZ (ow hw 74 rfl)) (mvT hZ (ow hw 73 rfl)) (by decide) (backOf (W := 0) (rm_sch l Z a0 hw [] ar (1 : Int32) va cs vk (4 : Int32) [(.int v0), (.int v1), (.int v2), (.int v3)] (.int 0) v1 fm T7.heap n0 f8_0 f8_1 f8_2 f8_3 f8_4 f8_5 f8_6 isr_fm (by decide) (by decide) rfl hcs) hZ (ow hw 75 rfl) (ow hw 11 rfl) (by decide) (by decide)) q10a q10c (g := (mkF m 50 #[.val (.ref ar), .val (.ref br), .val (.int 4), .val (.int 1)] [(.int 1), (.ref ar)])) rfl (by rw [hml]; rfl) (Steps.refl _) (argsL := [(.int 1)]) (rest := []) (lenOf pd_15 rfl) rfl (Nat.le_of_eq rfl) (hb hby d9_50) (fun _ _ => ⟨rfl, e9, (by decide : 2 + 0 ≤ _), (by decide : 8 + 0 ≤ _)⟩)
  dsimp only [Pt.U, Pt.locs, Pt.cells, Pt.slots] at X10 l10 y10 z10 st10 hQ10
  subst l10 y10 z10
  obtain ⟨rfl, N10q, K10⟩ := hQ10
  have f11_0 := Nat.le_trans f8_0 K10.1
  have f11_1 := f8_1.keep K10
  have f11_2 := f8_2.keep K10 nin0
  have f11_3 := f8_3.keep K10 nin0
  have f11_4 := f8_4.keep K10 nin0
  have f11_5 := Sta_keep0 f8_5 K10
  have f11_6 := Sta_keep0 f8_6 K10
  have f11_7 := f8_7.trans K10 all0
  have f11_8 := CHv.keep K10 sf0 f8_8
  have f11_9 := f8_9.trans (CHr.keep K10 sf0 f8_8)
  have f11_10 := Nat.le_trans f8_10 K10.1
  have f11_11 := f8_11.keep K10
  have f11_12 := f8_12.keep K10 nin0
  have f11_13 := f8_13.keep K10 nin0
  have f11_14 := f8_14.keep K10 nin0
  have N10 := Fr.app N9 N10q
  refine Wp.back (U' := (T10.setTop (mkF m 53 #[.val (.ref ar), .val (.ref br), .val (.int 4), .val (.int 1)] [(.int (nar .char (nar .char ((v1 &&& (255 : Int32))).toUInt32.toUInt16.toUInt32.toInt32)))]))) (fun t k => st10.trans k) ?_
  obtain ⟨_, _, ⟨T12, L12, k12, n12⟩, -, X12, ⟨Lc12, hQ12, l12, y12, z12⟩, st12⟩ := Jvm.LawKit.callS X10 hx (y := Y1) hown (mvT hZ (ow hw 93 rfl)) (mvT hZ (ow hw 94 rfl)) (mvT hZ (ow hw 43 rfl)) (mvT hZ (ow hw 95 rfl)) (by decide) (backOf (W := 0) (rm_f_ihd l Z a0 hw [] (nar .char (nar .char ((v1 &&& (255 : Int32))).toUInt32.toUInt16.toUInt32.toInt32)) T10.heap n0 f11_0 ) hZ (ow hw 95 rfl) (ow hw 43 rfl) (by decide) (by decide)) (g := (mkF m 53 #[.val (.ref ar), .val (.ref br), .val (.int 4), .val (.int 1)] [(.int (nar .char (nar .char ((v1 &&& (255 : Int32))).toUInt32.toUInt16.toUInt32.toInt32)))])) rfl (by rw [hml]; rfl) (argsL := [(.int (nar .char (nar .char ((v1 &&& (255 : Int32))).toUInt32.toUInt16.toUInt32.toInt32)))]) (rest := []) (lenOf pd_16 rfl) rfl (Nat.le_of_eq rfl) (hb hby d9_53) (fun _ _ => ⟨rfl, rfl, (by decide : 2 + 0 ≤ _), (by decide : 8 + 0 ≤ _)⟩)
  dsimp only [Pt.U, Pt.locs, Pt.cells, Pt.slots] at X12 l12 y12 z12 st12 hQ12
  subst l12 y12 z12
  obtain ⟨rfl, N12q, e12⟩ := hQ12
  have N12 := Fr.app N10 N12q
  refine Wp.back (U' := (T12.setTop (mkF m 56 #[.val (.ref ar), .val (.ref br), .val (.int 4), .val (.int 1)] [(.int (f_ihd (nar .char (nar .char ((v1 &&& (255 : Int32))).toUInt32.toUInt16.toUInt32.toInt32))))]))) st12 ?_
  refine Wp.back (U' := (T12.setTop (mkF m 50 #[.val (.ref ar), .val (.ref br), .val (.int 4), .val (.int 2)] [(.int 2), (.ref ar)]))) (fun t k => XS.ifYes X12.here hx rfl (pc0 := 56) (pc' := 76) rfl (hb hby d9_56) rfl ((if0 _ _).trans (feq hd1).2) (by decide) (by decide) (XT.iincV X12.here hx rfl 1 (hb hby d9_76) (by decide) rfl (l' := #[.val (.ref ar), .val (.ref br), .val (.int 4), .val (.int 2)]) rfl (XS.goto X12.here hx rfl (pc0 := 79) (pc' := 43) rfl (hb hby d9_79) (by decide) (by decide) (XS.iloadN X12.here hx rfl (hb hby d9_43) rfl (XS.iloadN X12.here hx rfl (hb hby d9_44) rfl (XS.icmpNo X12.here hx rfl (hb hby d9_45) rfl (tlt (by decide)).2.1 (XS.aloadN X12.here hx rfl (hb hby d9_48) rfl rfl (XS.iloadN X12.here hx rfl (hb hby d9_49) rfl k)))))))) ?_
  obtain ⟨cq13, kq13, q13a, q13b, q13c⟩ := isOf hZ e12 f11_1
  obtain ⟨_, _, ⟨T13, L13, k13, n13⟩, -, X13, ⟨Lc13, hQ13, l13, y13, z13⟩, st13⟩ := X12.virtualBack hx (y := Y11) (z := Y11) hown (mvT hZ (ow hw 71 rfl)) (mvT hZ (ow hw 72 rfl)) (notFace_of_selects (args := #[]) (mvT hZ (ow hw 74 rfl))) (mvT hZ (ow hw 74 rfl)) (mvT hZ (ow hw 73 rfl)) (by decide) (backOf (W := 0) (rm_sch l Z a0 hw [] ar (2 : Int32) va cs vk (4 : Int32) [(.int v0), (.int v1), (.int v2), (.int v3)] (.int 0) v2 fm T10.heap n0 f11_0 f11_1 f11_2 f11_3 f11_4 f11_5 f11_6 isr_fm (by decide) (by decide) rfl hcs) hZ (ow hw 75 rfl) (ow hw 11 rfl) (by decide) (by decide)) q13a q13c (g := (mkF m 50 #[.val (.ref ar), .val (.ref br), .val (.int 4), .val (.int 2)] [(.int 2), (.ref ar)])) rfl (by rw [hml]; rfl) (Steps.refl _) (argsL := [(.int 2)]) (rest := []) (lenOf pd_15 rfl) rfl (Nat.le_of_eq rfl) (hb hby d9_50) (fun _ _ => ⟨rfl, e12, (by decide : 2 + 0 ≤ _), (by decide : 8 + 0 ≤ _)⟩)
  dsimp only [Pt.U, Pt.locs, Pt.cells, Pt.slots] at X13 l13 y13 z13 st13 hQ13
  subst l13 y13 z13
  obtain ⟨rfl, N13q, K13⟩ := hQ13
  have f14_0 := Nat.le_trans f11_0 K13.1
  have f14_1 := f11_1.keep K13
  have f14_2 := f11_2.keep K13 nin0
  have f14_3 := f11_3.keep K13 nin0
  have f14_4 := f11_4.keep K13 nin0
  have f14_5 := Sta_keep0 f11_5 K13
  have f14_6 := Sta_keep0 f11_6 K13
  have f14_7 := f11_7.trans K13 all0
  have f14_8 := CHv.keep K13 sf0 f11_8
  have f14_9 := f11_9.trans (CHr.keep K13 sf0 f11_8)
  have f14_10 := Nat.le_trans f11_10 K13.1
  have f14_11 := f11_11.keep K13
  have f14_12 := f11_12.keep K13 nin0
  have f14_13 := f11_13.keep K13 nin0
  have f14_14 := f11_14.keep K13 nin0
  have N13 := Fr.app N12 N13q
  refine Wp.back (U' := (T13.setTop (mkF m 53 #[.val (.ref ar), .val (.ref br), .val (.int 4), .val (.int 2)] [(.int (nar .char (nar .char ((v2 &&& (255 : Int32))).toUInt32.toUInt16.toUInt32.toInt32)))]))) (fun t k => st13.trans k) ?_
  obtain ⟨_, _, ⟨T15, L15, k15, n15⟩, -, X15, ⟨Lc15, hQ15, l15, y15, z15⟩, st15⟩ := Jvm.LawKit.callS X13 hx (y := Y1) hown (mvT hZ (ow hw 93 rfl)) (mvT hZ (ow hw 94 rfl)) (mvT hZ (ow hw 43 rfl)) (mvT hZ (ow hw 95 rfl)) (by decide) (backOf (W := 0) (rm_f_ihd l Z a0 hw [] (nar .char (nar .char ((v2 &&& (255 : Int32))).toUInt32.toUInt16.toUInt32.toInt32)) T13.heap n0 f14_0 ) hZ (ow hw 95 rfl) (ow hw 43 rfl) (by decide) (by decide)) (g := (mkF m 53 #[.val (.ref ar), .val (.ref br), .val (.int 4), .val (.int 2)] [(.int (nar .char (nar .char ((v2 &&& (255 : Int32))).toUInt32.toUInt16.toUInt32.toInt32)))])) rfl (by rw [hml]; rfl) (argsL := [(.int (nar .char (nar .char ((v2 &&& (255 : Int32))).toUInt32.toUInt16.toUInt32.toInt32)))]) (rest := []) (lenOf pd_16 rfl) rfl (Nat.le_of_eq rfl) (hb hby d9_53) (fun _ _ => ⟨rfl, rfl, (by decide : 2 + 0 ≤ _), (by decide : 8 + 0 ≤ _)⟩)
  dsimp only [Pt.U, Pt.locs, Pt.cells, Pt.slots] at X15 l15 y15 z15 st15 hQ15
  subst l15 y15 z15
  obtain ⟨rfl, N15q, e15⟩ := hQ15
  have N15 := Fr.app N13 N15q
  refine Wp.back (U' := (T15.setTop (mkF m 56 #[.val (.ref ar), .val (.ref br), .val (.int 4), .val (.int 2)] [(.int (f_ihd (nar .char (nar .char ((v2 &&& (255 : Int32))).toUInt32.toUInt16.toUInt32.toInt32))))]))) st15 ?_
  refine Wp.back (U' := (T15.setTop (mkF m 50 #[.val (.ref ar), .val (.ref br), .val (.int 4), .val (.int 3)] [(.int 3), (.ref ar)]))) (fun t k => XS.ifYes X15.here hx rfl (pc0 := 56) (pc' := 76) rfl (hb hby d9_56) rfl ((if0 _ _).trans (feq hd2).2) (by decide) (by decide) (XT.iincV X15.here hx rfl 1 (hb hby d9_76) (by decide) rfl (l' := #[.val (.ref ar), .val (.ref br), .val (.int 4), .val (.int 3)]) rfl (XS.goto X15.here hx rfl (pc0 := 79) (pc' := 43) rfl (hb hby d9_79) (by decide) (by decide) (XS.iloadN X15.here hx rfl (hb hby d9_43) rfl (XS.iloadN X15.here hx rfl (hb hby d9_44) rfl (XS.icmpNo X15.here hx rfl (hb hby d9_45) rfl (tlt (by decide)).2.1 (XS.aloadN X15.here hx rfl (hb hby d9_48) rfl rfl (XS.iloadN X15.here hx rfl (hb hby d9_49) rfl k)))))))) ?_
  obtain ⟨cq16, kq16, q16a, q16b, q16c⟩ := isOf hZ e15 f14_1
  obtain ⟨_, _, ⟨T16, L16, k16, n16⟩, -, X16, ⟨Lc16, hQ16, l16, y16, z16⟩, st16⟩ := X15.virtualBack hx (y := Y11) (z := Y11) hown (mvT hZ (ow hw 71 rfl)) (mvT hZ (ow hw 72 rfl)) (notFace_of_selects (args := #[]) (mvT hZ (ow hw 74 rfl))) (mvT hZ (ow hw 74 rfl)) (mvT hZ (ow hw 73 rfl)) (by decide) (backOf (W := 0) (rm_sch l Z a0 hw [] ar (3 : Int32) va cs vk (4 : Int32) [(.int v0), (.int v1), (.int v2), (.int v3)] (.int 0) v3 fm T13.heap n0 f14_0 f14_1 f14_2 f14_3 f14_4 f14_5 f14_6 isr_fm (by decide) (by decide) rfl hcs) hZ (ow hw 75 rfl) (ow hw 11 rfl) (by decide) (by decide)) q16a q16c (g := (mkF m 50 #[.val (.ref ar), .val (.ref br), .val (.int 4), .val (.int 3)] [(.int 3), (.ref ar)])) rfl (by rw [hml]; rfl) (Steps.refl _) (argsL := [(.int 3)]) (rest := []) (lenOf pd_15 rfl) rfl (Nat.le_of_eq rfl) (hb hby d9_50) (fun _ _ => ⟨rfl, e15, (by decide : 2 + 0 ≤ _), (by decide : 8 + 0 ≤ _)⟩)
  dsimp only [Pt.U, Pt.locs, Pt.cells, Pt.slots] at X16 l16 y16 z16 st16 hQ16
  subst l16 y16 z16
  obtain ⟨rfl, N16q, K16⟩ := hQ16
  have f17_0 := Nat.le_trans f14_0 K16.1
  have f17_1 := f14_1.keep K16
  have f17_2 := f14_2.keep K16 nin0
  have f17_3 := f14_3.keep K16 nin0
  have f17_4 := f14_4.keep K16 nin0
  have f17_5 := Sta_keep0 f14_5 K16
  have f17_6 := Sta_keep0 f14_6 K16
  have f17_7 := f14_7.trans K16 all0
  have f17_8 := CHv.keep K16 sf0 f14_8
  have f17_9 := f14_9.trans (CHr.keep K16 sf0 f14_8)
  have f17_10 := Nat.le_trans f14_10 K16.1
  have f17_11 := f14_11.keep K16
  have f17_12 := f14_12.keep K16 nin0
  have f17_13 := f14_13.keep K16 nin0
  have f17_14 := f14_14.keep K16 nin0
  have N16 := Fr.app N15 N16q
  refine Wp.back (U' := (T16.setTop (mkF m 53 #[.val (.ref ar), .val (.ref br), .val (.int 4), .val (.int 3)] [(.int (nar .char (nar .char ((v3 &&& (255 : Int32))).toUInt32.toUInt16.toUInt32.toInt32)))]))) (fun t k => st16.trans k) ?_
  obtain ⟨_, _, ⟨T18, L18, k18, n18⟩, -, X18, ⟨Lc18, hQ18, l18, y18, z18⟩, st18⟩ := Jvm.LawKit.callS X16 hx (y := Y1) hown (mvT hZ (ow hw 93 rfl)) (mvT hZ (ow hw 94 rfl)) (mvT hZ (ow hw 43 rfl)) (mvT hZ (ow hw 95 rfl)) (by decide) (backOf (W := 0) (rm_f_ihd l Z a0 hw [] (nar .char (nar .char ((v3 &&& (255 : Int32))).toUInt32.toUInt16.toUInt32.toInt32)) T16.heap n0 f17_0 ) hZ (ow hw 95 rfl) (ow hw 43 rfl) (by decide) (by decide)) (g := (mkF m 53 #[.val (.ref ar), .val (.ref br), .val (.int 4), .val (.int 3)] [(.int (nar .char (nar .char ((v3 &&& (255 : Int32))).toUInt32.toUInt16.toUInt32.toInt32)))])) rfl (by rw [hml]; rfl) (argsL := [(.int (nar .char (nar .char ((v3 &&& (255 : Int32))).toUInt32.toUInt16.toUInt32.toInt32)))]) (rest := []) (lenOf pd_16 rfl) rfl (Nat.le_of_eq rfl) (hb hby d9_53) (fun _ _ => ⟨rfl, rfl, (by decide : 2 + 0 ≤ _), (by decide : 8 + 0 ≤ _)⟩)
  dsimp only [Pt.U, Pt.locs, Pt.cells, Pt.slots] at X18 l18 y18 z18 st18 hQ18
  subst l18 y18 z18
  obtain ⟨rfl, N18q, e18⟩ := hQ18
  have N18 := Fr.app N16 N18q
  refine Wp.back (U' := (T18.setTop (mkF m 56 #[.val (.ref ar), .val (.ref br), .val (.int 4), .val (.int 3)] [(.int (f_ihd (nar .char (nar .char ((v3 &&& (255 : Int32))).toUInt32.toUInt16.toUInt32.toInt32))))]))) st18 ?_
  refine Wp.back (U' := (T18.setTop (mkF m 85 #[.val (.ref ar), .val (.ref br), .val (.int 4), .val (.int 4)] [(.int 4), (.int 0), (.ref ar)]))) (fun t k => XS.ifYes X18.here hx rfl (pc0 := 56) (pc' := 76) rfl (hb hby d9_56) rfl ((if0 _ _).trans (feq hd3).2) (by decide) (by decide) (XT.iincV X18.here hx rfl 1 (hb hby d9_76) (by decide) rfl (l' := #[.val (.ref ar), .val (.ref br), .val (.int 4), .val (.int 4)]) rfl (XS.goto X18.here hx rfl (pc0 := 79) (pc' := 43) rfl (hb hby d9_79) (by decide) (by decide) (XS.iloadN X18.here hx rfl (hb hby d9_43) rfl (XS.iloadN X18.here hx rfl (hb hby d9_44) rfl (XS.icmpYes X18.here hx rfl (pc0 := 45) (pc' := 82) rfl (hb hby d9_45) rfl (flt (by decide)).2.1 (by decide) (by decide) (XS.aloadN X18.here hx rfl (hb hby d9_82) rfl rfl (XT.iconstV X18.here hx rfl 0 (hb hby d9_83) (by decide) (XS.iloadN X18.here hx rfl (hb hby d9_84) rfl k))))))))) ?_
  obtain ⟨cq19, kq19, q19a, q19b, q19c⟩ := isOf hZ e18 f17_1
  obtain ⟨_, _, ⟨T19, L19, k19, n19⟩, -, X19, ⟨Lc19, hQ19, l19, y19, z19⟩, st19⟩ := X18.virtualBack hx (y := Y20) (z := Y20) hown (mvT hZ (ow hw 96 rfl)) (mvT hZ (ow hw 97 rfl)) (notFace_of_selects (args := #[]) (mvT hZ (ow hw 99 rfl))) (mvT hZ (ow hw 99 rfl)) (mvT hZ (ow hw 98 rfl)) (by decide) (backOf (W := 0) (rm_sq l Z a0 hw [] ar (4 : Int32) va cs fm vk [(.int v0), (.int v1), (.int v2), (.int v3)] (.int 0) T16.heap n0 f17_0 f17_1 f17_2 f17_3 f17_4 f17_5 f17_6 isr_fm (by decide) hcs) hZ (ow hw 100 rfl) (ow hw 11 rfl) (by decide) (by decide)) q19a q19c (g := (mkF m 85 #[.val (.ref ar), .val (.ref br), .val (.int 4), .val (.int 4)] [(.int 4), (.int 0), (.ref ar)])) rfl (by rw [hml]; rfl) (Steps.refl _) (argsL := [(.int 0), (.int 4)]) (rest := []) (lenOf pd_17 rfl) rfl (Nat.le_of_eq rfl) (hb hby d9_85) (fun _ _ => ⟨rfl, e18, (by decide : 2 + 0 ≤ _), (by decide : 8 + 0 ≤ _)⟩)
  dsimp only [Pt.U, Pt.locs, Pt.cells, Pt.slots] at X19 l19 y19 z19 st19 hQ19
  subst l19 y19 z19
  obtain ⟨rfl, N19q, K19⟩ := hQ19
  have f20_0 := Nat.le_trans f17_0 K19.1
  have f20_1 := f17_1.keep K19
  have f20_2 := f17_2.keep K19 nin0
  have f20_3 := f17_3.keep K19 nin0
  have f20_4 := f17_4.keep K19 nin0
  have f20_5 := Sta_keep0 f17_5 K19
  have f20_6 := Sta_keep0 f17_6 K19
  have f20_7 := f17_7.trans K19 all0
  have f20_8 := CHv.keep K19 sf0 f17_8
  have f20_9 := f17_9.trans (CHr.keep K19 sf0 f17_8)
  have f20_10 := Nat.le_trans f17_10 K19.1
  have f20_11 := f17_11.keep K19
  have f20_12 := f17_12.keep K19 nin0
  have f20_13 := f17_13.keep K19 nin0
  have f20_14 := f17_14.keep K19 nin0
  have N19 := Fr.app N18 N19q
  refine Wp.back (U' := (T19.setTop (mkF m 88 #[.val (.ref ar), .val (.ref br), .val (.int 4), .val (.int 4)] [(.ref ar)]))) (fun t k => st19.trans k) ?_
  obtain ⟨fs, hr, hrun, hended, hend⟩ := X19.leaveW hS1 f20_10 (v := (some (.ref ar))) (fun h => by rw [hret] at h; cases h)
  refine Wp.done (retOut X19 hx hret rfl (Or.inr (Or.inr (Or.inr (Or.inr ⟨rfl, rfl, rfl⟩)))) (hb hby d9_88) hr) hrun hended ⟨_, _, rfl, ?_, ?_, hend.1, hend.2.1, hend.2.2.1, hend.2.2.2.mono (by decide) (by decide)⟩
  rotate_left
  · show CHr Z consts_1 s.vm s.heap T19.vm T19.heap
    rw [hh]
    exact f20_9.trans (CHv.at X19 hZ hEL f20_8)
  show Q_dgn4 Z ar br va cs fm vk v0 v1 v2 v3 h0 n0 _ T19.heap _
  exact ⟨rfl, N19, f20_7⟩
def Q_cp2_1 (Z : State) (ca : Addr) (ba : Addr) (kc : ClassId) (c0 : Int32) (kb : ClassId) (h0 : Heap) (n0 : Nat) (v : Option Value) (h : Heap) (L : List Loc) : Prop := v = some (.int 1) ∧ Fr n0 L ∧ Keep h0 h [ba] ∧ Arv Z h ba kb .byte (1 : Int32) [(.int (nar .byte (c0).toInt8.toInt32))] (.int 0)
theorem d7_0 : decode jdk_52_method_21_code 0 = .ok (.iconst 0, 1) := by decide +kernel
theorem d7_1 : decode jdk_52_method_21_code 1 = .ok (.istore 5, 2) := by decide +kernel
theorem d7_3 : decode jdk_52_method_21_code 3 = .ok (.iload 5, 2) := by decide +kernel
theorem d7_5 : decode jdk_52_method_21_code 5 = .ok (.iload 4, 2) := by decide +kernel
theorem d7_7 : decode jdk_52_method_21_code 7 = .ok (.if_icmp .ge 37, 3) := by decide +kernel
theorem d7_10 : decode jdk_52_method_21_code 10 = .ok (.aload_n 0, 1) := by decide +kernel
theorem d7_11 : decode jdk_52_method_21_code 11 = .ok (.iload_n 1, 1) := by decide +kernel
theorem d7_12 : decode jdk_52_method_21_code 12 = .ok (.caload, 1) := by decide +kernel
theorem d7_13 : decode jdk_52_method_21_code 13 = .ok (.istore 6, 2) := by decide +kernel
theorem d7_15 : decode jdk_52_method_21_code 15 = .ok (.iload 6, 2) := by decide +kernel
theorem d7_17 : decode jdk_52_method_21_code 17 = .ok (.sipush 255, 3) := by decide +kernel
theorem d7_20 : decode jdk_52_method_21_code 20 = .ok (.if_icmp .le 6, 3) := by decide +kernel
theorem d7_26 : decode jdk_52_method_21_code 26 = .ok (.aload_n 2, 1) := by decide +kernel
theorem d7_27 : decode jdk_52_method_21_code 27 = .ok (.iload_n 3, 1) := by decide +kernel
theorem d7_28 : decode jdk_52_method_21_code 28 = .ok (.iload 6, 2) := by decide +kernel
theorem d7_30 : decode jdk_52_method_21_code 30 = .ok (.i2b, 1) := by decide +kernel
theorem d7_31 : decode jdk_52_method_21_code 31 = .ok (.bastore, 1) := by decide +kernel
theorem d7_32 : decode jdk_52_method_21_code 32 = .ok (.iinc 1 1, 3) := by decide +kernel
theorem d7_35 : decode jdk_52_method_21_code 35 = .ok (.iinc 3 1, 3) := by decide +kernel
theorem d7_38 : decode jdk_52_method_21_code 38 = .ok (.iinc 5 1, 3) := by decide +kernel
theorem d7_41 : decode jdk_52_method_21_code 41 = .ok (.goto (-38), 3) := by decide +kernel
theorem d7_44 : decode jdk_52_method_21_code 44 = .ok (.iload 4, 2) := by decide +kernel
theorem d7_46 : decode jdk_52_method_21_code 46 = .ok (.ireturn, 1) := by decide +kernel
theorem pn7 : plainName "java/lang/StringUTF16" = true := by first | (simp [plainName, overriddenIn]; done) | decide +kernel
theorem ef7_RIRII (m : MethodId) (x0 : Addr) (x1 : Int32) (x2 : Addr) (x3 : Int32) (x4 : Int32) : entryFrame m #[(.ref x0), (.int x1), (.ref x2), (.int x3), (.int x4)] 7 = mkF m 0 #[.val (.ref x0), .val (.int x1), .val (.ref x2), .val (.int x3), .val (.int x4), .unset, .unset] [] := by first | (simp [entryFrame, mkF, argsToLocals, Value.category]; done) | rfl
set_option maxRecDepth 65536 in
set_option maxHeartbeats 40000000 in
theorem rm_cp2_1 (l : Launch) (Z : State) (a0 : Array Value) (hw : ∀ d ∈ tables_1, d.before a0 Z = true) (ws : List Jvm.Cond) (ca : Addr) (ba : Addr) (kc : ClassId) (c0 : Int32) (kb : ClassId) (h0 : Heap) (n0 : Nat) (Z0 : n0 ≤ h0.size) (H0 : Arv Z h0 ca kc .char (1 : Int32) [(.int c0)] (.int 0)) (H1 : Arv Z h0 ba kb .byte (1 : Int32) [(.int 0)] (.int 0)) (g_ba : n0 ≤ ba) (ne_ca_ba : ca ≠ ba) (h2550 : ¬ (255 : Int32) < c0) :
    Met l Z Y22 jdk_52_method_21_code 7 (some .int) ws ({ frames := 0, cells := 0, slots := 0, locals := 0 } : Room) #[(.ref ca), (.int 0), (.ref ba), (.int 0), (.int 1)] h0 (Q_cp2_1 Z ca ba kc c0 kb h0 n0) := by
  refine own_body (plainFor_of_name pn7) ?_
  intro p e s m below meth c s₁ hx hby hret hlk hml hZ hown hnm X0 e0
  have N0 := Fr.nil n0
  refine Wp.back (U' := (s₁.setTop (mkF m 0 #[.val (.ref ca), .val (.int 0), .val (.ref ba), .val (.int 0), .val (.int 1), .unset, .unset] []))) (fun t k => castTop (ef7_RIRII m ca (0 : Int32) ba (0 : Int32) (1 : Int32)) k) ?_
  refine Wp.back (U' := (s₁.setTop (mkF m 12 #[.val (.ref ca), .val (.int 0), .val (.ref ba), .val (.int 0), .val (.int 1), .val (.int 0), .unset] [(.int 0), (.ref ca)]))) (fun t k => XT.iconstV X0.here hx rfl 0 (hb hby d7_0) (by decide) (XS.istore X0.here hx rfl (hb hby d7_1) rfl (l' := #[.val (.ref ca), .val (.int 0), .val (.ref ba), .val (.int 0), .val (.int 1), .val (.int 0), .unset]) rfl (XS.iload X0.here hx rfl (hb hby d7_3) rfl (XS.iload X0.here hx rfl (hb hby d7_5) rfl (XS.icmpNo X0.here hx rfl (hb hby d7_7) rfl (tlt (by decide)).2.1 (XS.aloadN X0.here hx rfl (hb hby d7_10) rfl rfl (XS.iloadN X0.here hx rfl (hb hby d7_11) rfl k))))))) ?_
  have vq1 := H0
  obtain ⟨cl1, Ar1, qa1, qs1, qn1, qh1, qg1⟩ := vq1
  have hin1 : ¬ ((0 : Int32) < 0 ∨ cl1.slots.size ≤ ((0 : Int32)).toNatClampNeg) := inb_of qs1 ⟨by decide, by decide⟩
  have hat1 : cl1.slots[((0 : Int32)).toNatClampNeg]? = some (.int c0) := Has.at qh1 hin1 rfl
  refine Wp.back (U' := (s₁.setTop (mkF m 13 #[.val (.ref ca), .val (.int 0), .val (.ref ba), .val (.int 0), .val (.int 1), .val (.int 0), .unset] [(.int c0)]))) (fun t k => X0.caload hx (j := (0 : Int32)) (v := (.int c0)) (by rw [e0]; exact Ar1.1) (State.isArrayOf_alike hZ.alike Ar1.2.1) Ar1.2.2 hin1 hat1 (g := (mkF m 12 #[.val (.ref ca), .val (.int 0), .val (.ref ba), .val (.int 0), .val (.int 1), .val (.int 0), .unset] [(.int 0), (.ref ca)])) rfl rfl (hb hby d7_12) t k) ?_
  refine Wp.back (U' := (s₁.setTop (mkF m 31 #[.val (.ref ca), .val (.int 0), .val (.ref ba), .val (.int 0), .val (.int 1), .val (.int 0), .val (.int c0)] [(.int (c0).toInt8.toInt32), (.int 0), (.ref ba)]))) (fun t k => XS.istore X0.here hx rfl (hb hby d7_13) rfl (l' := #[.val (.ref ca), .val (.int 0), .val (.ref ba), .val (.int 0), .val (.int 1), .val (.int 0), .val (.int c0)]) rfl (XS.iload X0.here hx rfl (hb hby d7_15) rfl (XT.sipushV X0.here hx rfl 255 (hb hby d7_17) (by decide) (XS.icmpYes X0.here hx rfl (pc0 := 20) (pc' := 26) rfl (hb hby d7_20) rfl (flt h2550).2.2.2 (by decide) (by decide) (XS.aloadN X0.here hx rfl (hb hby d7_26) rfl rfl (XS.iloadN X0.here hx rfl (hb hby d7_27) rfl (XS.iload X0.here hx rfl (hb hby d7_28) rfl (XS.i2b X0.here hx rfl (hb hby d7_30) rfl k)))))))) ?_
  have vq2 := H1
  obtain ⟨cl2, Ar2, qa2, qs2, qn2, qh2, qg2⟩ := vq2
  have hin2 : ¬ ((0 : Int32) < 0 ∨ cl2.slots.size ≤ ((0 : Int32)).toNatClampNeg) := inb_of qs2 ⟨by decide, by decide⟩
  obtain ⟨T2, h2, X2, e2, W2, st2⟩ := stB X0 hx hZ e0 Ar2 (j := (0 : Int32)) hin2 (g := (mkF m 31 #[.val (.ref ca), .val (.int 0), .val (.ref ba), .val (.int 0), .val (.int 1), .val (.int 0), .val (.int c0)] [(.int (c0).toInt8.toInt32), (.int 0), (.ref ba)])) rfl rfl (hb hby d7_31)
  have V2 : Arv Z h2 ba kb .byte (1 : Int32) [(.int (nar .byte (c0).toInt8.toInt32))] (.int 0) := Arv.set Ar2 qa2 qs2 qn2 qh2 qg2 (fits_nar_byte (c0).toInt8.toInt32) W2 0 rfl (Nat.le_of_ble_eq_true rfl)
  have f3_0 := Nat.le_trans Z0 (Keep.of_wr W2).1
  have f3_1 := H0.other W2 ne_ca_ba
  have f3_2 := (Keep.refl h0 [ba]).wr W2 (Or.inl (List.mem_of_getElem? (i := 0) rfl))
  have N2 := Fr.snoc X2 N0 g_ba
  refine Wp.back (U' := (T2.setTop (mkF m 32 #[.val (.ref ca), .val (.int 0), .val (.ref ba), .val (.int 0), .val (.int 1), .val (.int 0), .val (.int c0)] []))) st2 ?_
  refine Wp.back (U' := (T2.setTop (mkF m 46 #[.val (.ref ca), .val (.int 1), .val (.ref ba), .val (.int 1), .val (.int 1), .val (.int 1), .val (.int c0)] [(.int 1)]))) (fun t k => XT.iincV X2.here hx rfl 1 (hb hby d7_32) (by decide) rfl (l' := #[.val (.ref ca), .val (.int 1), .val (.ref ba), .val (.int 0), .val (.int 1), .val (.int 0), .val (.int c0)]) rfl (XT.iincV X2.here hx rfl 1 (hb hby d7_35) (by decide) rfl (l' := #[.val (.ref ca), .val (.int 1), .val (.ref ba), .val (.int 1), .val (.int 1), .val (.int 0), .val (.int c0)]) rfl (XT.iincV X2.here hx rfl 1 (hb hby d7_38) (by decide) rfl (l' := #[.val (.ref ca), .val (.int 1), .val (.ref ba), .val (.int 1), .val (.int 1), .val (.int 1), .val (.int c0)]) rfl (XS.goto X2.here hx rfl (pc0 := 41) (pc' := 3) rfl (hb hby d7_41) (by decide) (by decide) (XS.iload X2.here hx rfl (hb hby d7_3) rfl (XS.iload X2.here hx rfl (hb hby d7_5) rfl (XS.icmpYes X2.here hx rfl (pc0 := 7) (pc' := 44) rfl (hb hby d7_7) rfl (flt (by decide)).2.1 (by decide) (by decide) (XS.iload X2.here hx rfl (hb hby d7_44) rfl k)))))))) ?_
  obtain ⟨fs, hr, hrun, hended, hW, hsame⟩ := X2.leave (v := (some (.int 1))) (fun h => by rw [hret] at h; cases h)
  refine Wp.done (retI X2 hx hret (hb hby d7_46) hr) hrun hended ⟨_, _, rfl, ?_, ⟨_, rfl⟩, hW, hsame.mono (by decide) (by decide)⟩
  show Q_cp2_1 Z ca ba kc c0 kb h0 n0 _ T2.heap _
  rw [e2]
  exact ⟨rfl, N2, f3_2, V2⟩
def Q_cp2_2 (Z : State) (ca : Addr) (ba : Addr) (kc : ClassId) (c0 : Int32) (c1 : Int32) (kb : ClassId) (h0 : Heap) (n0 : Nat) (v : Option Value) (h : Heap) (L : List Loc) : Prop := v = some (.int 2) ∧ Fr n0 L ∧ Keep h0 h [ba] ∧ Arv Z h ba kb .byte (2 : Int32) [(.int (nar .byte (c0).toInt8.toInt32)), (.int (nar .byte (c1).toInt8.toInt32))] (.int 0)
set_option maxRecDepth 65536 in
set_option maxHeartbeats 40000000 in
theorem rm_cp2_2 (l : Launch) (Z : State) (a0 : Array Value) (hw : ∀ d ∈ tables_1, d.before a0 Z = true) (ws : List Jvm.Cond) (ca : Addr) (ba : Addr) (kc : ClassId) (c0 : Int32) (c1 : Int32) (kb : ClassId) (h0 : Heap) (n0 : Nat) (Z0 : n0 ≤ h0.size) (H0 : Arv Z h0 ca kc .char (2 : Int32) [(.int c0), (.int c1)] (.int 0)) (H1 : Arv Z h0 ba kb .byte (2 : Int32) [(.int 0), (.int 0)] (.int 0)) (g_ba : n0 ≤ ba) (ne_ca_ba : ca ≠ ba) (h2550 : ¬ (255 : Int32) < c0) (h2551 : ¬ (255 : Int32) < c1) :
    Met l Z Y22 jdk_52_method_21_code 7 (some .int) ws ({ frames := 0, cells := 0, slots := 0, locals := 0 } : Room) #[(.ref ca), (.int 0), (.ref ba), (.int 0), (.int 2)] h0 (Q_cp2_2 Z ca ba kc c0 c1 kb h0 n0) := by
  refine own_body (plainFor_of_name pn7) ?_
  intro p e s m below meth c s₁ hx hby hret hlk hml hZ hown hnm X0 e0
  have N0 := Fr.nil n0
  refine Wp.back (U' := (s₁.setTop (mkF m 0 #[.val (.ref ca), .val (.int 0), .val (.ref ba), .val (.int 0), .val (.int 2), .unset, .unset] []))) (fun t k => castTop (ef7_RIRII m ca (0 : Int32) ba (0 : Int32) (2 : Int32)) k) ?_
  refine Wp.back (U' := (s₁.setTop (mkF m 12 #[.val (.ref ca), .val (.int 0), .val (.ref ba), .val (.int 0), .val (.int 2), .val (.int 0), .unset] [(.int 0), (.ref ca)]))) (fun t k => XT.iconstV X0.here hx rfl 0 (hb hby d7_0) (by decide) (XS.istore X0.here hx rfl (hb hby d7_1) rfl (l' := #[.val (.ref ca), .val (.int 0), .val (.ref ba), .val (.int 0), .val (.int 2), .val (.int 0), .unset]) rfl (XS.iload X0.here hx rfl (hb hby d7_3) rfl (XS.iload X0.here hx rfl (hb hby d7_5) rfl (XS.icmpNo X0.here hx rfl (hb hby d7_7) rfl (tlt (by decide)).2.1 (XS.aloadN X0.here hx rfl (hb hby d7_10) rfl rfl (XS.iloadN X0.here hx rfl (hb hby d7_11) rfl k))))))) ?_
  have vq1 := H0
  obtain ⟨cl1, Ar1, qa1, qs1, qn1, qh1, qg1⟩ := vq1
  have hin1 : ¬ ((0 : Int32) < 0 ∨ cl1.slots.size ≤ ((0 : Int32)).toNatClampNeg) := inb_of qs1 ⟨by decide, by decide⟩
  have hat1 : cl1.slots[((0 : Int32)).toNatClampNeg]? = some (.int c0) := Has.at qh1 hin1 rfl
  refine Wp.back (U' := (s₁.setTop (mkF m 13 #[.val (.ref ca), .val (.int 0), .val (.ref ba), .val (.int 0), .val (.int 2), .val (.int 0), .unset] [(.int c0)]))) (fun t k => X0.caload hx (j := (0 : Int32)) (v := (.int c0)) (by rw [e0]; exact Ar1.1) (State.isArrayOf_alike hZ.alike Ar1.2.1) Ar1.2.2 hin1 hat1 (g := (mkF m 12 #[.val (.ref ca), .val (.int 0), .val (.ref ba), .val (.int 0), .val (.int 2), .val (.int 0), .unset] [(.int 0), (.ref ca)])) rfl rfl (hb hby d7_12) t k) ?_
  refine Wp.back (U' := (s₁.setTop (mkF m 31 #[.val (.ref ca), .val (.int 0), .val (.ref ba), .val (.int 0), .val (.int 2), .val (.int 0), .val (.int c0)] [(.int (c0).toInt8.toInt32), (.int 0), (.ref ba)]))) (fun t k => XS.istore X0.here hx rfl (hb hby d7_13) rfl (l' := #[.val (.ref ca), .val (.int 0), .val (.ref ba), .val (.int 0), .val (.int 2), .val (.int 0), .val (.int c0)]) rfl (XS.iload X0.here hx rfl (hb hby d7_15) rfl (XT.sipushV X0.here hx rfl 255 (hb hby d7_17) (by decide) (XS.icmpYes X0.here hx rfl (pc0 := 20) (pc' := 26) rfl (hb hby d7_20) rfl (flt h2550).2.2.2 (by decide) (by decide) (XS.aloadN X0.here hx rfl (hb hby d7_26) rfl rfl (XS.iloadN X0.here hx rfl (hb hby d7_27) rfl (XS.iload X0.here hx rfl (hb hby d7_28) rfl (XS.i2b X0.here hx rfl (hb hby d7_30) rfl k)))))))) ?_
  have vq2 := H1
  obtain ⟨cl2, Ar2, qa2, qs2, qn2, qh2, qg2⟩ := vq2
  have hin2 : ¬ ((0 : Int32) < 0 ∨ cl2.slots.size ≤ ((0 : Int32)).toNatClampNeg) := inb_of qs2 ⟨by decide, by decide⟩
  obtain ⟨T2, h2, X2, e2, W2, st2⟩ := stB X0 hx hZ e0 Ar2 (j := (0 : Int32)) hin2 (g := (mkF m 31 #[.val (.ref ca), .val (.int 0), .val (.ref ba), .val (.int 0), .val (.int 2), .val (.int 0), .val (.int c0)] [(.int (c0).toInt8.toInt32), (.int 0), (.ref ba)])) rfl rfl (hb hby d7_31)
  have V2 : Arv Z h2 ba kb .byte (2 : Int32) [(.int (nar .byte (c0).toInt8.toInt32)), (.int 0)] (.int 0) := Arv.set Ar2 qa2 qs2 qn2 qh2 qg2 (fits_nar_byte (c0).toInt8.toInt32) W2 0 rfl (Nat.le_of_ble_eq_true rfl)
  have f3_0 := Nat.le_trans Z0 (Keep.of_wr W2).1
  have f3_1 := H0.other W2 ne_ca_ba
  have f3_2 := (Keep.refl h0 [ba]).wr W2 (Or.inl (List.mem_of_getElem? (i := 0) rfl))
  have N2 := Fr.snoc X2 N0 g_ba
  refine Wp.back (U' := (T2.setTop (mkF m 32 #[.val (.ref ca), .val (.int 0), .val (.ref ba), .val (.int 0), .val (.int 2), .val (.int 0), .val (.int c0)] []))) st2 ?_
  refine Wp.back (U' := (T2.setTop (mkF m 12 #[.val (.ref ca), .val (.int 1), .val (.ref ba), .val (.int 1), .val (.int 2), .val (.int 1), .val (.int c0)] [(.int 1), (.ref ca)]))) (fun t k => XT.iincV X2.here hx rfl 1 (hb hby d7_32) (by decide) rfl (l' := #[.val (.ref ca), .val (.int 1), .val (.ref ba), .val (.int 0), .val (.int 2), .val (.int 0), .val (.int c0)]) rfl (XT.iincV X2.here hx rfl 1 (hb hby d7_35) (by decide) rfl (l' := #[.val (.ref ca), .val (.int 1), .val (.ref ba), .val (.int 1), .val (.int 2), .val (.int 0), .val (.int c0)]) rfl (XT.iincV X2.here hx rfl 1 (hb hby d7_38) (by decide) rfl (l' := #[.val (.ref ca), .val (.int 1), .val (.ref ba), .val (.int 1), .val (.int 2), .val (.int 1), .val (.int c0)]) rfl (XS.goto X2.here hx rfl (pc0 := 41) (pc' := 3) rfl (hb hby d7_41) (by decide) (by decide) (XS.iload X2.here hx rfl (hb hby d7_3) rfl (XS.iload X2.here hx rfl (hb hby d7_5) rfl (XS.icmpNo X2.here hx rfl (hb hby d7_7) rfl (tlt (by decide)).2.1 (XS.aloadN X2.here hx rfl (hb hby d7_10) rfl rfl (XS.iloadN X2.here hx rfl (hb hby d7_11) rfl k))))))))) ?_
  have vq4 := f3_1
  obtain ⟨cl4, Ar4, qa4, qs4, qn4, qh4, qg4⟩ := vq4
  have hin4 : ¬ ((1 : Int32) < 0 ∨ cl4.slots.size ≤ ((1 : Int32)).toNatClampNeg) := inb_of qs4 ⟨by decide, by decide⟩
  have hat4 : cl4.slots[((1 : Int32)).toNatClampNeg]? = some (.int c1) := Has.at qh4 hin4 rfl
  refine Wp.back (U' := (T2.setTop (mkF m 13 #[.val (.ref ca), .val (.int 1), .val (.ref ba), .val (.int 1), .val (.int 2), .val (.int 1), .val (.int c0)] [(.int c1)]))) (fun t k => X2.caload hx (j := (1 : Int32)) (v := (.int c1)) (by rw [e2]; exact Ar4.1) (State.isArrayOf_alike hZ.alike Ar4.2.1) Ar4.2.2 hin4 hat4 (g := (mkF m 12 #[.val (.ref ca), .val (.int 1), .val (.ref ba), .val (.int 1), .val (.int 2), .val (.int 1), .val (.int c0)] [(.int 1), (.ref ca)])) rfl rfl (hb hby d7_12) t k) ?_
  refine Wp.back (U' := (T2.setTop (mkF m 31 #[.val (.ref ca), .val (.int 1), .val (.ref ba), .val (.int 1), .val (.int 2), .val (.int 1), .val (.int c1)] [(.int (c1).toInt8.toInt32), (.int 1), (.ref ba)]))) (fun t k => XS.istore X2.here hx rfl (hb hby d7_13) rfl (l' := #[.val (.ref ca), .val (.int 1), .val (.ref ba), .val (.int 1), .val (.int 2), .val (.int 1), .val (.int c1)]) rfl (XS.iload X2.here hx rfl (hb hby d7_15) rfl (XT.sipushV X2.here hx rfl 255 (hb hby d7_17) (by decide) (XS.icmpYes X2.here hx rfl (pc0 := 20) (pc' := 26) rfl (hb hby d7_20) rfl (flt h2551).2.2.2 (by decide) (by decide) (XS.aloadN X2.here hx rfl (hb hby d7_26) rfl rfl (XS.iloadN X2.here hx rfl (hb hby d7_27) rfl (XS.iload X2.here hx rfl (hb hby d7_28) rfl (XS.i2b X2.here hx rfl (hb hby d7_30) rfl k)))))))) ?_
  have vq5 := V2
  obtain ⟨cl5, Ar5, qa5, qs5, qn5, qh5, qg5⟩ := vq5
  have hin5 : ¬ ((1 : Int32) < 0 ∨ cl5.slots.size ≤ ((1 : Int32)).toNatClampNeg) := inb_of qs5 ⟨by decide, by decide⟩
  obtain ⟨T5, h5, X5, e5, W5, st5⟩ := stB X2 hx hZ e2 Ar5 (j := (1 : Int32)) hin5 (g := (mkF m 31 #[.val (.ref ca), .val (.int 1), .val (.ref ba), .val (.int 1), .val (.int 2), .val (.int 1), .val (.int c1)] [(.int (c1).toInt8.toInt32), (.int 1), (.ref ba)])) rfl rfl (hb hby d7_31)
  have V5 : Arv Z h5 ba kb .byte (2 : Int32) [(.int (nar .byte (c0).toInt8.toInt32)), (.int (nar .byte (c1).toInt8.toInt32))] (.int 0) := Arv.set Ar5 qa5 qs5 qn5 qh5 qg5 (fits_nar_byte (c1).toInt8.toInt32) W5 1 rfl (Nat.le_of_ble_eq_true rfl)
  have f6_0 := Nat.le_trans f3_0 (Keep.of_wr W5).1
  have f6_1 := f3_1.other W5 ne_ca_ba
  have f6_2 := f3_2.wr W5 (Or.inl (List.mem_of_getElem? (i := 0) rfl))
  have N5 := Fr.snoc X5 N2 g_ba
  refine Wp.back (U' := (T5.setTop (mkF m 32 #[.val (.ref ca), .val (.int 1), .val (.ref ba), .val (.int 1), .val (.int 2), .val (.int 1), .val (.int c1)] []))) st5 ?_
  refine Wp.back (U' := (T5.setTop (mkF m 46 #[.val (.ref ca), .val (.int 2), .val (.ref ba), .val (.int 2), .val (.int 2), .val (.int 2), .val (.int c1)] [(.int 2)]))) (fun t k => XT.iincV X5.here hx rfl 1 (hb hby d7_32) (by decide) rfl (l' := #[.val (.ref ca), .val (.int 2), .val (.ref ba), .val (.int 1), .val (.int 2), .val (.int 1), .val (.int c1)]) rfl (XT.iincV X5.here hx rfl 1 (hb hby d7_35) (by decide) rfl (l' := #[.val (.ref ca), .val (.int 2), .val (.ref ba), .val (.int 2), .val (.int 2), .val (.int 1), .val (.int c1)]) rfl (XT.iincV X5.here hx rfl 1 (hb hby d7_38) (by decide) rfl (l' := #[.val (.ref ca), .val (.int 2), .val (.ref ba), .val (.int 2), .val (.int 2), .val (.int 2), .val (.int c1)]) rfl (XS.goto X5.here hx rfl (pc0 := 41) (pc' := 3) rfl (hb hby d7_41) (by decide) (by decide) (XS.iload X5.here hx rfl (hb hby d7_3) rfl (XS.iload X5.here hx rfl (hb hby d7_5) rfl (XS.icmpYes X5.here hx rfl (pc0 := 7) (pc' := 44) rfl (hb hby d7_7) rfl (flt (by decide)).2.1 (by decide) (by decide) (XS.iload X5.here hx rfl (hb hby d7_44) rfl k)))))))) ?_
  obtain ⟨fs, hr, hrun, hended, hW, hsame⟩ := X5.leave (v := (some (.int 2))) (fun h => by rw [hret] at h; cases h)
  refine Wp.done (retI X5 hx hret (hb hby d7_46) hr) hrun hended ⟨_, _, rfl, ?_, ⟨_, rfl⟩, hW, hsame.mono (by decide) (by decide)⟩
  show Q_cp2_2 Z ca ba kc c0 c1 kb h0 n0 _ T5.heap _
  rw [e5]
  exact ⟨rfl, N5, f6_2, V5⟩
def Q_cp2_3 (Z : State) (ca : Addr) (ba : Addr) (kc : ClassId) (c0 : Int32) (c1 : Int32) (c2 : Int32) (kb : ClassId) (h0 : Heap) (n0 : Nat) (v : Option Value) (h : Heap) (L : List Loc) : Prop := v = some (.int 3) ∧ Fr n0 L ∧ Keep h0 h [ba] ∧ Arv Z h ba kb .byte (3 : Int32) [(.int (nar .byte (c0).toInt8.toInt32)), (.int (nar .byte (c1).toInt8.toInt32)), (.int (nar .byte (c2).toInt8.toInt32))] (.int 0)
set_option maxRecDepth 65536 in
set_option maxHeartbeats 40000000 in
theorem rm_cp2_3 (l : Launch) (Z : State) (a0 : Array Value) (hw : ∀ d ∈ tables_1, d.before a0 Z = true) (ws : List Jvm.Cond) (ca : Addr) (ba : Addr) (kc : ClassId) (c0 : Int32) (c1 : Int32) (c2 : Int32) (kb : ClassId) (h0 : Heap) (n0 : Nat) (Z0 : n0 ≤ h0.size) (H0 : Arv Z h0 ca kc .char (3 : Int32) [(.int c0), (.int c1), (.int c2)] (.int 0)) (H1 : Arv Z h0 ba kb .byte (3 : Int32) [(.int 0), (.int 0), (.int 0)] (.int 0)) (g_ba : n0 ≤ ba) (ne_ca_ba : ca ≠ ba) (h2550 : ¬ (255 : Int32) < c0) (h2551 : ¬ (255 : Int32) < c1) (h2552 : ¬ (255 : Int32) < c2) :
    Met l Z Y22 jdk_52_method_21_code 7 (some .int) ws ({ frames := 0, cells := 0, slots := 0, locals := 0 } : Room) #[(.ref ca), (.int 0), (.ref ba), (.int 0), (.int 3)] h0 (Q_cp2_3 Z ca ba kc c0 c1 c2 kb h0 n0) := by
  refine own_body (plainFor_of_name pn7) ?_
  intro p e s m below meth c s₁ hx hby hret hlk hml hZ hown hnm X0 e0
  have N0 := Fr.nil n0
  refine Wp.back (U' := (s₁.setTop (mkF m 0 #[.val (.ref ca), .val (.int 0), .val (.ref ba), .val (.int 0), .val (.int 3), .unset, .unset] []))) (fun t k => castTop (ef7_RIRII m ca (0 : Int32) ba (0 : Int32) (3 : Int32)) k) ?_
  refine Wp.back (U' := (s₁.setTop (mkF m 12 #[.val (.ref ca), .val (.int 0), .val (.ref ba), .val (.int 0), .val (.int 3), .val (.int 0), .unset] [(.int 0), (.ref ca)]))) (fun t k => XT.iconstV X0.here hx rfl 0 (hb hby d7_0) (by decide) (XS.istore X0.here hx rfl (hb hby d7_1) rfl (l' := #[.val (.ref ca), .val (.int 0), .val (.ref ba), .val (.int 0), .val (.int 3), .val (.int 0), .unset]) rfl (XS.iload X0.here hx rfl (hb hby d7_3) rfl (XS.iload X0.here hx rfl (hb hby d7_5) rfl (XS.icmpNo X0.here hx rfl (hb hby d7_7) rfl (tlt (by decide)).2.1 (XS.aloadN X0.here hx rfl (hb hby d7_10) rfl rfl (XS.iloadN X0.here hx rfl (hb hby d7_11) rfl k))))))) ?_
  have vq1 := H0
  obtain ⟨cl1, Ar1, qa1, qs1, qn1, qh1, qg1⟩ := vq1
  have hin1 : ¬ ((0 : Int32) < 0 ∨ cl1.slots.size ≤ ((0 : Int32)).toNatClampNeg) := inb_of qs1 ⟨by decide, by decide⟩
  have hat1 : cl1.slots[((0 : Int32)).toNatClampNeg]? = some (.int c0) := Has.at qh1 hin1 rfl
  refine Wp.back (U' := (s₁.setTop (mkF m 13 #[.val (.ref ca), .val (.int 0), .val (.ref ba), .val (.int 0), .val (.int 3), .val (.int 0), .unset] [(.int c0)]))) (fun t k => X0.caload hx (j := (0 : Int32)) (v := (.int c0)) (by rw [e0]; exact Ar1.1) (State.isArrayOf_alike hZ.alike Ar1.2.1) Ar1.2.2 hin1 hat1 (g := (mkF m 12 #[.val (.ref ca), .val (.int 0), .val (.ref ba), .val (.int 0), .val (.int 3), .val (.int 0), .unset] [(.int 0), (.ref ca)])) rfl rfl (hb hby d7_12) t k) ?_
  refine Wp.back (U' := (s₁.setTop (mkF m 31 #[.val (.ref ca), .val (.int 0), .val (.ref ba), .val (.int 0), .val (.int 3), .val (.int 0), .val (.int c0)] [(.int (c0).toInt8.toInt32), (.int 0), (.ref ba)]))) (fun t k => XS.istore X0.here hx rfl (hb hby d7_13) rfl (l' := #[.val (.ref ca), .val (.int 0), .val (.ref ba), .val (.int 0), .val (.int 3), .val (.int 0), .val (.int c0)]) rfl (XS.iload X0.here hx rfl (hb hby d7_15) rfl (XT.sipushV X0.here hx rfl 255 (hb hby d7_17) (by decide) (XS.icmpYes X0.here hx rfl (pc0 := 20) (pc' := 26) rfl (hb hby d7_20) rfl (flt h2550).2.2.2 (by decide) (by decide) (XS.aloadN X0.here hx rfl (hb hby d7_26) rfl rfl (XS.iloadN X0.here hx rfl (hb hby d7_27) rfl (XS.iload X0.here hx rfl (hb hby d7_28) rfl (XS.i2b X0.here hx rfl (hb hby d7_30) rfl k)))))))) ?_
  have vq2 := H1
  obtain ⟨cl2, Ar2, qa2, qs2, qn2, qh2, qg2⟩ := vq2
  have hin2 : ¬ ((0 : Int32) < 0 ∨ cl2.slots.size ≤ ((0 : Int32)).toNatClampNeg) := inb_of qs2 ⟨by decide, by decide⟩
  obtain ⟨T2, h2, X2, e2, W2, st2⟩ := stB X0 hx hZ e0 Ar2 (j := (0 : Int32)) hin2 (g := (mkF m 31 #[.val (.ref ca), .val (.int 0), .val (.ref ba), .val (.int 0), .val (.int 3), .val (.int 0), .val (.int c0)] [(.int (c0).toInt8.toInt32), (.int 0), (.ref ba)])) rfl rfl (hb hby d7_31)
  have V2 : Arv Z h2 ba kb .byte (3 : Int32) [(.int (nar .byte (c0).toInt8.toInt32)), (.int 0), (.int 0)] (.int 0) := Arv.set Ar2 qa2 qs2 qn2 qh2 qg2 (fits_nar_byte (c0).toInt8.toInt32) W2 0 rfl (Nat.le_of_ble_eq_true rfl)
  have f3_0 := Nat.le_trans Z0 (Keep.of_wr W2).1
  have f3_1 := H0.other W2 ne_ca_ba
  have f3_2 := (Keep.refl h0 [ba]).wr W2 (Or.inl (List.mem_of_getElem? (i := 0) rfl))
  have N2 := Fr.snoc X2 N0 g_ba
  refine Wp.back (U' := (T2.setTop (mkF m 32 #[.val (.ref ca), .val (.int 0), .val (.ref ba), .val (.int 0), .val (.int 3), .val (.int 0), .val (.int c0)] []))) st2 ?_
  refine Wp.back (U' := (T2.setTop (mkF m 12 #[.val (.ref ca), .val (.int 1), .val (.ref ba), .val (.int 1), .val (.int 3), .val (.int 1), .val (.int c0)] [(.int 1), (.ref ca)]))) (fun t k => XT.iincV X2.here hx rfl 1 (hb hby d7_32) (by decide) rfl (l' := #[.val (.ref ca), .val (.int 1), .val (.ref ba), .val (.int 0), .val (.int 3), .val (.int 0), .val (.int c0)]) rfl (XT.iincV X2.here hx rfl 1 (hb hby d7_35) (by decide) rfl (l' := #[.val (.ref ca), .val (.int 1), .val (.ref ba), .val (.int 1), .val (.int 3), .val (.int 0), .val (.int c0)]) rfl (XT.iincV X2.here hx rfl 1 (hb hby d7_38) (by decide) rfl (l' := #[.val (.ref ca), .val (.int 1), .val (.ref ba), .val (.int 1), .val (.int 3), .val (.int 1), .val (.int c0)]) rfl (XS.goto X2.here hx rfl (pc0 := 41) (pc' := 3) rfl (hb hby d7_41) (by decide) (by decide) (XS.iload X2.here hx rfl (hb hby d7_3) rfl (XS.iload X2.here hx rfl (hb hby d7_5) rfl (XS.icmpNo X2.here hx rfl (hb hby d7_7) rfl (tlt (by decide)).2.1 (XS.aloadN X2.here hx rfl (hb hby d7_10) rfl rfl (XS.iloadN X2.here hx rfl (hb hby d7_11) rfl k))))))))) ?_
  have vq4 := f3_1
  obtain ⟨cl4, Ar4, qa4, qs4, qn4, qh4, qg4⟩ := vq4
  have hin4 : ¬ ((1 : Int32) < 0 ∨ cl4.slots.size ≤ ((1 : Int32)).toNatClampNeg) := inb_of qs4 ⟨by decide, by decide⟩
  have hat4 : cl4.slots[((1 : Int32)).toNatClampNeg]? = some (.int c1) := Has.at qh4 hin4 rfl
  refine Wp.back (U' := (T2.setTop (mkF m 13 #[.val (.ref ca), .val (.int 1), .val (.ref ba), .val (.int 1), .val (.int 3), .val (.int 1), .val (.int c0)] [(.int c1)]))) (fun t k => X2.caload hx (j := (1 : Int32)) (v := (.int c1)) (by rw [e2]; exact Ar4.1) (State.isArrayOf_alike hZ.alike Ar4.2.1) Ar4.2.2 hin4 hat4 (g := (mkF m 12 #[.val (.ref ca), .val (.int 1), .val (.ref ba), .val (.int 1), .val (.int 3), .val (.int 1), .val (.int c0)] [(.int 1), (.ref ca)])) rfl rfl (hb hby d7_12) t k) ?_
  refine Wp.back (U' := (T2.setTop (mkF m 31 #[.val (.ref ca), .val (.int 1), .val (.ref ba), .val (.int 1), .val (.int 3), .val (.int 1), .val (.int c1)] [(.int (c1).toInt8.toInt32), (.int 1), (.ref ba)]))) (fun t k => XS.istore X2.here hx rfl (hb hby d7_13) rfl (l' := #[.val (.ref ca), .val (.int 1), .val (.ref ba), .val (.int 1), .val (.int 3), .val (.int 1), .val (.int c1)]) rfl (XS.iload X2.here hx rfl (hb hby d7_15) rfl (XT.sipushV X2.here hx rfl 255 (hb hby d7_17) (by decide) (XS.icmpYes X2.here hx rfl (pc0 := 20) (pc' := 26) rfl (hb hby d7_20) rfl (flt h2551).2.2.2 (by decide) (by decide) (XS.aloadN X2.here hx rfl (hb hby d7_26) rfl rfl (XS.iloadN X2.here hx rfl (hb hby d7_27) rfl (XS.iload X2.here hx rfl (hb hby d7_28) rfl (XS.i2b X2.here hx rfl (hb hby d7_30) rfl k)))))))) ?_
  have vq5 := V2
  obtain ⟨cl5, Ar5, qa5, qs5, qn5, qh5, qg5⟩ := vq5
  have hin5 : ¬ ((1 : Int32) < 0 ∨ cl5.slots.size ≤ ((1 : Int32)).toNatClampNeg) := inb_of qs5 ⟨by decide, by decide⟩
  obtain ⟨T5, h5, X5, e5, W5, st5⟩ := stB X2 hx hZ e2 Ar5 (j := (1 : Int32)) hin5 (g := (mkF m 31 #[.val (.ref ca), .val (.int 1), .val (.ref ba), .val (.int 1), .val (.int 3), .val (.int 1), .val (.int c1)] [(.int (c1).toInt8.toInt32), (.int 1), (.ref ba)])) rfl rfl (hb hby d7_31)
  have V5 : Arv Z h5 ba kb .byte (3 : Int32) [(.int (nar .byte (c0).toInt8.toInt32)), (.int (nar .byte (c1).toInt8.toInt32)), (.int 0)] (.int 0) := Arv.set Ar5 qa5 qs5 qn5 qh5 qg5 (fits_nar_byte (c1).toInt8.toInt32) W5 1 rfl (Nat.le_of_ble_eq_true rfl)
  have f6_0 := Nat.le_trans f3_0 (Keep.of_wr W5).1
  have f6_1 := f3_1.other W5 ne_ca_ba
  have f6_2 := f3_2.wr W5 (Or.inl (List.mem_of_getElem? (i := 0) rfl))
  have N5 := Fr.snoc X5 N2 g_ba
  refine Wp.back (U' := (T5.setTop (mkF m 32 #[.val (.ref ca), .val (.int 1), .val (.ref ba), .val (.int 1), .val (.int 3), .val (.int 1), .val (.int c1)] []))) st5 ?_
  refine Wp.back (U' := (T5.setTop (mkF m 12 #[.val (.ref ca), .val (.int 2), .val (.ref ba), .val (.int 2), .val (.int 3), .val (.int 2), .val (.int c1)] [(.int 2), (.ref ca)]))) (fun t k => XT.iincV X5.here hx rfl 1 (hb hby d7_32) (by decide) rfl (l' := #[.val (.ref ca), .val (.int 2), .val (.ref ba), .val (.int 1), .val (.int 3), .val (.int 1), .val (.int c1)]) rfl (XT.iincV X5.here hx rfl 1 (hb hby d7_35) (by decide) rfl (l' := #[.val (.ref ca), .val (.int 2), .val (.ref ba), .val (.int 2), .val (.int 3), .val (.int 1), .val (.int c1)]) rfl (XT.iincV X5.here hx rfl 1 (hb hby d7_38) (by decide) rfl (l' := #[.val (.ref ca), .val (.int 2), .val (.ref ba), .val (.int 2), .val (.int 3), .val (.int 2), .val (.int c1)]) rfl (XS.goto X5.here hx rfl (pc0 := 41) (pc' := 3) rfl (hb hby d7_41) (by decide) (by decide) (XS.iload X5.here hx rfl (hb hby d7_3) rfl (XS.iload X5.here hx rfl (hb hby d7_5) rfl (XS.icmpNo X5.here hx rfl (hb hby d7_7) rfl (tlt (by decide)).2.1 (XS.aloadN X5.here hx rfl (hb hby d7_10) rfl rfl (XS.iloadN X5.here hx rfl (hb hby d7_11) rfl k))))))))) ?_
  have vq7 := f6_1
  obtain ⟨cl7, Ar7, qa7, qs7, qn7, qh7, qg7⟩ := vq7
  have hin7 : ¬ ((2 : Int32) < 0 ∨ cl7.slots.size ≤ ((2 : Int32)).toNatClampNeg) := inb_of qs7 ⟨by decide, by decide⟩
  have hat7 : cl7.slots[((2 : Int32)).toNatClampNeg]? = some (.int c2) := Has.at qh7 hin7 rfl
  refine Wp.back (U' := (T5.setTop (mkF m 13 #[.val (.ref ca), .val (.int 2), .val (.ref ba), .val (.int 2), .val (.int 3), .val (.int 2), .val (.int c1)] [(.int c2)]))) (fun t k => X5.caload hx (j := (2 : Int32)) (v := (.int c2)) (by rw [e5]; exact Ar7.1) (State.isArrayOf_alike hZ.alike Ar7.2.1) Ar7.2.2 hin7 hat7 (g := (mkF m 12 #[.val (.ref ca), .val (.int 2), .val (.ref ba), .val (.int 2), .val (.int 3), .val (.int 2), .val (.int c1)] [(.int 2), (.ref ca)])) rfl rfl (hb hby d7_12) t k) ?_
  refine Wp.back (U' := (T5.setTop (mkF m 31 #[.val (.ref ca), .val (.int 2), .val (.ref ba), .val (.int 2), .val (.int 3), .val (.int 2), .val (.int c2)] [(.int (c2).toInt8.toInt32), (.int 2), (.ref ba)]))) (fun t k => XS.istore X5.here hx rfl (hb hby d7_13) rfl (l' := #[.val (.ref ca), .val (.int 2), .val (.ref ba), .val (.int 2), .val (.int 3), .val (.int 2), .val (.int c2)]) rfl (XS.iload X5.here hx rfl (hb hby d7_15) rfl (XT.sipushV X5.here hx rfl 255 (hb hby d7_17) (by decide) (XS.icmpYes X5.here hx rfl (pc0 := 20) (pc' := 26) rfl (hb hby d7_20) rfl (flt h2552).2.2.2 (by decide) (by decide) (XS.aloadN X5.here hx rfl (hb hby d7_26) rfl rfl (XS.iloadN X5.here hx rfl (hb hby d7_27) rfl (XS.iload X5.here hx rfl (hb hby d7_28) rfl (XS.i2b X5.here hx rfl (hb hby d7_30) rfl k)))))))) ?_
  have vq8 := V5
  obtain ⟨cl8, Ar8, qa8, qs8, qn8, qh8, qg8⟩ := vq8
  have hin8 : ¬ ((2 : Int32) < 0 ∨ cl8.slots.size ≤ ((2 : Int32)).toNatClampNeg) := inb_of qs8 ⟨by decide, by decide⟩
  obtain ⟨T8, h8, X8, e8, W8, st8⟩ := stB X5 hx hZ e5 Ar8 (j := (2 : Int32)) hin8 (g := (mkF m 31 #[.val (.ref ca), .val (.int 2), .val (.ref ba), .val (.int 2), .val (.int 3), .val (.int 2), .val (.int c2)] [(.int (c2).toInt8.toInt32), (.int 2), (.ref ba)])) rfl rfl (hb hby d7_31)
  have V8 : Arv Z h8 ba kb .byte (3 : Int32) [(.int (nar .byte (c0).toInt8.toInt32)), (.int (nar .byte (c1).toInt8.toInt32)), (.int (nar .byte (c2).toInt8.toInt32))] (.int 0) := Arv.set Ar8 qa8 qs8 qn8 qh8 qg8 (fits_nar_byte (c2).toInt8.toInt32) W8 2 rfl (Nat.le_of_ble_eq_true rfl)
  have f9_0 := Nat.le_trans f6_0 (Keep.of_wr W8).1
  have f9_1 := f6_1.other W8 ne_ca_ba
  have f9_2 := f6_2.wr W8 (Or.inl (List.mem_of_getElem? (i := 0) rfl))
  have N8 := Fr.snoc X8 N5 g_ba
  refine Wp.back (U' := (T8.setTop (mkF m 32 #[.val (.ref ca), .val (.int 2), .val (.ref ba), .val (.int 2), .val (.int 3), .val (.int 2), .val (.int c2)] []))) st8 ?_
  refine Wp.back (U' := (T8.setTop (mkF m 46 #[.val (.ref ca), .val (.int 3), .val (.ref ba), .val (.int 3), .val (.int 3), .val (.int 3), .val (.int c2)] [(.int 3)]))) (fun t k => XT.iincV X8.here hx rfl 1 (hb hby d7_32) (by decide) rfl (l' := #[.val (.ref ca), .val (.int 3), .val (.ref ba), .val (.int 2), .val (.int 3), .val (.int 2), .val (.int c2)]) rfl (XT.iincV X8.here hx rfl 1 (hb hby d7_35) (by decide) rfl (l' := #[.val (.ref ca), .val (.int 3), .val (.ref ba), .val (.int 3), .val (.int 3), .val (.int 2), .val (.int c2)]) rfl (XT.iincV X8.here hx rfl 1 (hb hby d7_38) (by decide) rfl (l' := #[.val (.ref ca), .val (.int 3), .val (.ref ba), .val (.int 3), .val (.int 3), .val (.int 3), .val (.int c2)]) rfl (XS.goto X8.here hx rfl (pc0 := 41) (pc' := 3) rfl (hb hby d7_41) (by decide) (by decide) (XS.iload X8.here hx rfl (hb hby d7_3) rfl (XS.iload X8.here hx rfl (hb hby d7_5) rfl (XS.icmpYes X8.here hx rfl (pc0 := 7) (pc' := 44) rfl (hb hby d7_7) rfl (flt (by decide)).2.1 (by decide) (by decide) (XS.iload X8.here hx rfl (hb hby d7_44) rfl k)))))))) ?_
  obtain ⟨fs, hr, hrun, hended, hW, hsame⟩ := X8.leave (v := (some (.int 3))) (fun h => by rw [hret] at h; cases h)
  refine Wp.done (retI X8 hx hret (hb hby d7_46) hr) hrun hended ⟨_, _, rfl, ?_, ⟨_, rfl⟩, hW, hsame.mono (by decide) (by decide)⟩
  show Q_cp2_3 Z ca ba kc c0 c1 c2 kb h0 n0 _ T8.heap _
  rw [e8]
  exact ⟨rfl, N8, f9_2, V8⟩
def Q_cp2_4 (Z : State) (ca : Addr) (ba : Addr) (kc : ClassId) (c0 : Int32) (c1 : Int32) (c2 : Int32) (c3 : Int32) (kb : ClassId) (h0 : Heap) (n0 : Nat) (v : Option Value) (h : Heap) (L : List Loc) : Prop := v = some (.int 4) ∧ Fr n0 L ∧ Keep h0 h [ba] ∧ Arv Z h ba kb .byte (4 : Int32) [(.int (nar .byte (c0).toInt8.toInt32)), (.int (nar .byte (c1).toInt8.toInt32)), (.int (nar .byte (c2).toInt8.toInt32)), (.int (nar .byte (c3).toInt8.toInt32))] (.int 0)
set_option maxRecDepth 65536 in
set_option maxHeartbeats 40000000 in
theorem rm_cp2_4 (l : Launch) (Z : State) (a0 : Array Value) (hw : ∀ d ∈ tables_1, d.before a0 Z = true) (ws : List Jvm.Cond) (ca : Addr) (ba : Addr) (kc : ClassId) (c0 : Int32) (c1 : Int32) (c2 : Int32) (c3 : Int32) (kb : ClassId) (h0 : Heap) (n0 : Nat) (Z0 : n0 ≤ h0.size) (H0 : Arv Z h0 ca kc .char (4 : Int32) [(.int c0), (.int c1), (.int c2), (.int c3)] (.int 0)) (H1 : Arv Z h0 ba kb .byte (4 : Int32) [(.int 0), (.int 0), (.int 0), (.int 0)] (.int 0)) (g_ba : n0 ≤ ba) (ne_ca_ba : ca ≠ ba) (h2550 : ¬ (255 : Int32) < c0) (h2551 : ¬ (255 : Int32) < c1) (h2552 : ¬ (255 : Int32) < c2) (h2553 : ¬ (255 : Int32) < c3) :
    Met l Z Y22 jdk_52_method_21_code 7 (some .int) ws ({ frames := 0, cells := 0, slots := 0, locals := 0 } : Room) #[(.ref ca), (.int 0), (.ref ba), (.int 0), (.int 4)] h0 (Q_cp2_4 Z ca ba kc c0 c1 c2 c3 kb h0 n0) := by
  refine own_body (plainFor_of_name pn7) ?_
  intro p e s m below meth c s₁ hx hby hret hlk hml hZ hown hnm X0 e0
  have N0 := Fr.nil n0
  refine Wp.back (U' := (s₁.setTop (mkF m 0 #[.val (.ref ca), .val (.int 0), .val (.ref ba), .val (.int 0), .val (.int 4), .unset, .unset] []))) (fun t k => castTop (ef7_RIRII m ca (0 : Int32) ba (0 : Int32) (4 : Int32)) k) ?_
  refine Wp.back (U' := (s₁.setTop (mkF m 12 #[.val (.ref ca), .val (.int 0), .val (.ref ba), .val (.int 0), .val (.int 4), .val (.int 0), .unset] [(.int 0), (.ref ca)]))) (fun t k => XT.iconstV X0.here hx rfl 0 (hb hby d7_0) (by decide) (XS.istore X0.here hx rfl (hb hby d7_1) rfl (l' := #[.val (.ref ca), .val (.int 0), .val (.ref ba), .val (.int 0), .val (.int 4), .val (.int 0), .unset]) rfl (XS.iload X0.here hx rfl (hb hby d7_3) rfl (XS.iload X0.here hx rfl (hb hby d7_5) rfl (XS.icmpNo X0.here hx rfl (hb hby d7_7) rfl (tlt (by decide)).2.1 (XS.aloadN X0.here hx rfl (hb hby d7_10) rfl rfl (XS.iloadN X0.here hx rfl (hb hby d7_11) rfl k))))))) ?_
  have vq1 := H0
  obtain ⟨cl1, Ar1, qa1, qs1, qn1, qh1, qg1⟩ := vq1
  have hin1 : ¬ ((0 : Int32) < 0 ∨ cl1.slots.size ≤ ((0 : Int32)).toNatClampNeg) := inb_of qs1 ⟨by decide, by decide⟩
  have hat1 : cl1.slots[((0 : Int32)).toNatClampNeg]? = some (.int c0) := Has.at qh1 hin1 rfl
  refine Wp.back (U' := (s₁.setTop (mkF m 13 #[.val (.ref ca), .val (.int 0), .val (.ref ba), .val (.int 0), .val (.int 4), .val (.int 0), .unset] [(.int c0)]))) (fun t k => X0.caload hx (j := (0 : Int32)) (v := (.int c0)) (by rw [e0]; exact Ar1.1) (State.isArrayOf_alike hZ.alike Ar1.2.1) Ar1.2.2 hin1 hat1 (g := (mkF m 12 #[.val (.ref ca), .val (.int 0), .val (.ref ba), .val (.int 0), .val (.int 4), .val (.int 0), .unset] [(.int 0), (.ref ca)])) rfl rfl (hb hby d7_12) t k) ?_
  refine Wp.back (U' := (s₁.setTop (mkF m 31 #[.val (.ref ca), .val (.int 0), .val (.ref ba), .val (.int 0), .val (.int 4), .val (.int 0), .val (.int c0)] [(.int (c0).toInt8.toInt32), (.int 0), (.ref ba)]))) (fun t k => XS.istore X0.here hx rfl (hb hby d7_13) rfl (l' := #[.val (.ref ca), .val (.int 0), .val (.ref ba), .val (.int 0), .val (.int 4), .val (.int 0), .val (.int c0)]) rfl (XS.iload X0.here hx rfl (hb hby d7_15) rfl (XT.sipushV X0.here hx rfl 255 (hb hby d7_17) (by decide) (XS.icmpYes X0.here hx rfl (pc0 := 20) (pc' := 26) rfl (hb hby d7_20) rfl (flt h2550).2.2.2 (by decide) (by decide) (XS.aloadN X0.here hx rfl (hb hby d7_26) rfl rfl (XS.iloadN X0.here hx rfl (hb hby d7_27) rfl (XS.iload X0.here hx rfl (hb hby d7_28) rfl (XS.i2b X0.here hx rfl (hb hby d7_30) rfl k)))))))) ?_
  have vq2 := H1
  obtain ⟨cl2, Ar2, qa2, qs2, qn2, qh2, qg2⟩ := vq2
  have hin2 : ¬ ((0 : Int32) < 0 ∨ cl2.slots.size ≤ ((0 : Int32)).toNatClampNeg) := inb_of qs2 ⟨by decide, by decide⟩
  obtain ⟨T2, h2, X2, e2, W2, st2⟩ := stB X0 hx hZ e0 Ar2 (j := (0 : Int32)) hin2 (g := (mkF m 31 #[.val (.ref ca), .val (.int 0), .val (.ref ba), .val (.int 0), .val (.int 4), .val (.int 0), .val (.int c0)] [(.int (c0).toInt8.toInt32), (.int 0), (.ref ba)])) rfl rfl (hb hby d7_31)
  have V2 : Arv Z h2 ba kb .byte (4 : Int32) [(.int (nar .byte (c0).toInt8.toInt32)), (.int 0), (.int 0), (.int 0)] (.int 0) := Arv.set Ar2 qa2 qs2 qn2 qh2 qg2 (fits_nar_byte (c0).toInt8.toInt32) W2 0 rfl (Nat.le_of_ble_eq_true rfl)
  have f3_0 := Nat.le_trans Z0 (Keep.of_wr W2).1
  have f3_1 := H0.other W2 ne_ca_ba
  have f3_2 := (Keep.refl h0 [ba]).wr W2 (Or.inl (List.mem_of_getElem? (i := 0) rfl))
  have N2 := Fr.snoc X2 N0 g_ba
  refine Wp.back (U' := (T2.setTop (mkF m 32 #[.val (.ref ca), .val (.int 0), .val (.ref ba), .val (.int 0), .val (.int 4), .val (.int 0), .val (.int c0)] []))) st2 ?_
  refine Wp.back (U' := (T2.setTop (mkF m 12 #[.val (.ref ca), .val (.int 1), .val (.ref ba), .val (.int 1), .val (.int 4), .val (.int 1), .val (.int c0)] [(.int 1), (.ref ca)]))) (fun t k => XT.iincV X2.here hx rfl 1 (hb hby d7_32) (by decide) rfl (l' := #[.val (.ref ca), .val (.int 1), .val (.ref ba), .val (.int 0), .val (.int 4), .val (.int 0), .val (.int c0)]) rfl (XT.iincV X2.here hx rfl 1 (hb hby d7_35) (by decide) rfl (l' := #[.val (.ref ca), .val (.int 1), .val (.ref ba), .val (.int 1), .val (.int 4), .val (.int 0), .val (.int c0)]) rfl (XT.iincV X2.here hx rfl 1 (hb hby d7_38) (by decide) rfl (l' := #[.val (.ref ca), .val (.int 1), .val (.ref ba), .val (.int 1), .val (.int 4), .val (.int 1), .val (.int c0)]) rfl (XS.goto X2.here hx rfl (pc0 := 41) (pc' := 3) rfl (hb hby d7_41) (by decide) (by decide) (XS.iload X2.here hx rfl (hb hby d7_3) rfl (XS.iload X2.here hx rfl (hb hby d7_5) rfl (XS.icmpNo X2.here hx rfl (hb hby d7_7) rfl (tlt (by decide)).2.1 (XS.aloadN X2.here hx rfl (hb hby d7_10) rfl rfl (XS.iloadN X2.here hx rfl (hb hby d7_11) rfl k))))))))) ?_
  have vq4 := f3_1
  obtain ⟨cl4, Ar4, qa4, qs4, qn4, qh4, qg4⟩ := vq4
  have hin4 : ¬ ((1 : Int32) < 0 ∨ cl4.slots.size ≤ ((1 : Int32)).toNatClampNeg) := inb_of qs4 ⟨by decide, by decide⟩
  have hat4 : cl4.slots[((1 : Int32)).toNatClampNeg]? = some (.int c1) := Has.at qh4 hin4 rfl
  refine Wp.back (U' := (T2.setTop (mkF m 13 #[.val (.ref ca), .val (.int 1), .val (.ref ba), .val (.int 1), .val (.int 4), .val (.int 1), .val (.int c0)] [(.int c1)]))) (fun t k => X2.caload hx (j := (1 : Int32)) (v := (.int c1)) (by rw [e2]; exact Ar4.1) (State.isArrayOf_alike hZ.alike Ar4.2.1) Ar4.2.2 hin4 hat4 (g := (mkF m 12 #[.val (.ref ca), .val (.int 1), .val (.ref ba), .val (.int 1), .val (.int 4), .val (.int 1), .val (.int c0)] [(.int 1), (.ref ca)])) rfl rfl (hb hby d7_12) t k) ?_
  refine Wp.back (U' := (T2.setTop (mkF m 31 #[.val (.ref ca), .val (.int 1), .val (.ref ba), .val (.int 1), .val (.int 4), .val (.int 1), .val (.int c1)] [(.int (c1).toInt8.toInt32), (.int 1), (.ref ba)]))) (fun t k => XS.istore X2.here hx rfl (hb hby d7_13) rfl (l' := #[.val (.ref ca), .val (.int 1), .val (.ref ba), .val (.int 1), .val (.int 4), .val (.int 1), .val (.int c1)]) rfl (XS.iload X2.here hx rfl (hb hby d7_15) rfl (XT.sipushV X2.here hx rfl 255 (hb hby d7_17) (by decide) (XS.icmpYes X2.here hx rfl (pc0 := 20) (pc' := 26) rfl (hb hby d7_20) rfl (flt h2551).2.2.2 (by decide) (by decide) (XS.aloadN X2.here hx rfl (hb hby d7_26) rfl rfl (XS.iloadN X2.here hx rfl (hb hby d7_27) rfl (XS.iload X2.here hx rfl (hb hby d7_28) rfl (XS.i2b X2.here hx rfl (hb hby d7_30) rfl k)))))))) ?_
  have vq5 := V2
  obtain ⟨cl5, Ar5, qa5, qs5, qn5, qh5, qg5⟩ := vq5
  have hin5 : ¬ ((1 : Int32) < 0 ∨ cl5.slots.size ≤ ((1 : Int32)).toNatClampNeg) := inb_of qs5 ⟨by decide, by decide⟩
  obtain ⟨T5, h5, X5, e5, W5, st5⟩ := stB X2 hx hZ e2 Ar5 (j := (1 : Int32)) hin5 (g := (mkF m 31 #[.val (.ref ca), .val (.int 1), .val (.ref ba), .val (.int 1), .val (.int 4), .val (.int 1), .val (.int c1)] [(.int (c1).toInt8.toInt32), (.int 1), (.ref ba)])) rfl rfl (hb hby d7_31)
  have V5 : Arv Z h5 ba kb .byte (4 : Int32) [(.int (nar .byte (c0).toInt8.toInt32)), (.int (nar .byte (c1).toInt8.toInt32)), (.int 0), (.int 0)] (.int 0) := Arv.set Ar5 qa5 qs5 qn5 qh5 qg5 (fits_nar_byte (c1).toInt8.toInt32) W5 1 rfl (Nat.le_of_ble_eq_true rfl)
  have f6_0 := Nat.le_trans f3_0 (Keep.of_wr W5).1
  have f6_1 := f3_1.other W5 ne_ca_ba
  have f6_2 := f3_2.wr W5 (Or.inl (List.mem_of_getElem? (i := 0) rfl))
  have N5 := Fr.snoc X5 N2 g_ba
  refine Wp.back (U' := (T5.setTop (mkF m 32 #[.val (.ref ca), .val (.int 1), .val (.ref ba), .val (.int 1), .val (.int 4), .val (.int 1), .val (.int c1)] []))) st5 ?_
  refine Wp.back (U' := (T5.setTop (mkF m 12 #[.val (.ref ca), .val (.int 2), .val (.ref ba), .val (.int 2), .val (.int 4), .val (.int 2), .val (.int c1)] [(.int 2), (.ref ca)]))) (fun t k => XT.iincV X5.here hx rfl 1 (hb hby d7_32) (by decide) rfl (l' := #[.val (.ref ca), .val (.int 2), .val (.ref ba), .val (.int 1), .val (.int 4), .val (.int 1), .val (.int c1)]) rfl (XT.iincV X5.here hx rfl 1 (hb hby d7_35) (by decide) rfl (l' := #[.val (.ref ca), .val (.int 2), .val (.ref ba), .val (.int 2), .val (.int 4), .val (.int 1), .val (.int c1)]) rfl (XT.iincV X5.here hx rfl 1 (hb hby d7_38) (by decide) rfl (l' := #[.val (.ref ca), .val (.int 2), .val (.ref ba), .val (.int 2), .val (.int 4), .val (.int 2), .val (.int c1)]) rfl (XS.goto X5.here hx rfl (pc0 := 41) (pc' := 3) rfl (hb hby d7_41) (by decide) (by decide) (XS.iload X5.here hx rfl (hb hby d7_3) rfl (XS.iload X5.here hx rfl (hb hby d7_5) rfl (XS.icmpNo X5.here hx rfl (hb hby d7_7) rfl (tlt (by decide)).2.1 (XS.aloadN X5.here hx rfl (hb hby d7_10) rfl rfl (XS.iloadN X5.here hx rfl (hb hby d7_11) rfl k))))))))) ?_
  have vq7 := f6_1
  obtain ⟨cl7, Ar7, qa7, qs7, qn7, qh7, qg7⟩ := vq7
  have hin7 : ¬ ((2 : Int32) < 0 ∨ cl7.slots.size ≤ ((2 : Int32)).toNatClampNeg) := inb_of qs7 ⟨by decide, by decide⟩
  have hat7 : cl7.slots[((2 : Int32)).toNatClampNeg]? = some (.int c2) := Has.at qh7 hin7 rfl
  refine Wp.back (U' := (T5.setTop (mkF m 13 #[.val (.ref ca), .val (.int 2), .val (.ref ba), .val (.int 2), .val (.int 4), .val (.int 2), .val (.int c1)] [(.int c2)]))) (fun t k => X5.caload hx (j := (2 : Int32)) (v := (.int c2)) (by rw [e5]; exact Ar7.1) (State.isArrayOf_alike hZ.alike Ar7.2.1) Ar7.2.2 hin7 hat7 (g := (mkF m 12 #[.val (.ref ca), .val (.int 2), .val (.ref ba), .val (.int 2), .val (.int 4), .val (.int 2), .val (.int c1)] [(.int 2), (.ref ca)])) rfl rfl (hb hby d7_12) t k) ?_
  refine Wp.back (U' := (T5.setTop (mkF m 31 #[.val (.ref ca), .val (.int 2), .val (.ref ba), .val (.int 2), .val (.int 4), .val (.int 2), .val (.int c2)] [(.int (c2).toInt8.toInt32), (.int 2), (.ref ba)]))) (fun t k => XS.istore X5.here hx rfl (hb hby d7_13) rfl (l' := #[.val (.ref ca), .val (.int 2), .val (.ref ba), .val (.int 2), .val (.int 4), .val (.int 2), .val (.int c2)]) rfl (XS.iload X5.here hx rfl (hb hby d7_15) rfl (XT.sipushV X5.here hx rfl 255 (hb hby d7_17) (by decide) (XS.icmpYes X5.here hx rfl (pc0 := 20) (pc' := 26) rfl (hb hby d7_20) rfl (flt h2552).2.2.2 (by decide) (by decide) (XS.aloadN X5.here hx rfl (hb hby d7_26) rfl rfl (XS.iloadN X5.here hx rfl (hb hby d7_27) rfl (XS.iload X5.here hx rfl (hb hby d7_28) rfl (XS.i2b X5.here hx rfl (hb hby d7_30) rfl k)))))))) ?_
  have vq8 := V5
  obtain ⟨cl8, Ar8, qa8, qs8, qn8, qh8, qg8⟩ := vq8
  have hin8 : ¬ ((2 : Int32) < 0 ∨ cl8.slots.size ≤ ((2 : Int32)).toNatClampNeg) := inb_of qs8 ⟨by decide, by decide⟩
  obtain ⟨T8, h8, X8, e8, W8, st8⟩ := stB X5 hx hZ e5 Ar8 (j := (2 : Int32)) hin8 (g := (mkF m 31 #[.val (.ref ca), .val (.int 2), .val (.ref ba), .val (.int 2), .val (.int 4), .val (.int 2), .val (.int c2)] [(.int (c2).toInt8.toInt32), (.int 2), (.ref ba)])) rfl rfl (hb hby d7_31)
  have V8 : Arv Z h8 ba kb .byte (4 : Int32) [(.int (nar .byte (c0).toInt8.toInt32)), (.int (nar .byte (c1).toInt8.toInt32)), (.int (nar .byte (c2).toInt8.toInt32)), (.int 0)] (.int 0) := Arv.set Ar8 qa8 qs8 qn8 qh8 qg8 (fits_nar_byte (c2).toInt8.toInt32) W8 2 rfl (Nat.le_of_ble_eq_true rfl)
  have f9_0 := Nat.le_trans f6_0 (Keep.of_wr W8).1
  have f9_1 := f6_1.other W8 ne_ca_ba
  have f9_2 := f6_2.wr W8 (Or.inl (List.mem_of_getElem? (i := 0) rfl))
  have N8 := Fr.snoc X8 N5 g_ba
  refine Wp.back (U' := (T8.setTop (mkF m 32 #[.val (.ref ca), .val (.int 2), .val (.ref ba), .val (.int 2), .val (.int 4), .val (.int 2), .val (.int c2)] []))) st8 ?_
  refine Wp.back (U' := (T8.setTop (mkF m 12 #[.val (.ref ca), .val (.int 3), .val (.ref ba), .val (.int 3), .val (.int 4), .val (.int 3), .val (.int c2)] [(.int 3), (.ref ca)]))) (fun t k => XT.iincV X8.here hx rfl 1 (hb hby d7_32) (by decide) rfl (l' := #[.val (.ref ca), .val (.int 3), .val (.ref ba), .val (.int 2), .val (.int 4), .val (.int 2), .val (.int c2)]) rfl (XT.iincV X8.here hx rfl 1 (hb hby d7_35) (by decide) rfl (l' := #[.val (.ref ca), .val (.int 3), .val (.ref ba), .val (.int 3), .val (.int 4), .val (.int 2), .val (.int c2)]) rfl (XT.iincV X8.here hx rfl 1 (hb hby d7_38) (by decide) rfl (l' := #[.val (.ref ca), .val (.int 3), .val (.ref ba), .val (.int 3), .val (.int 4), .val (.int 3), .val (.int c2)]) rfl (XS.goto X8.here hx rfl (pc0 := 41) (pc' := 3) rfl (hb hby d7_41) (by decide) (by decide) (XS.iload X8.here hx rfl (hb hby d7_3) rfl (XS.iload X8.here hx rfl (hb hby d7_5) rfl (XS.icmpNo X8.here hx rfl (hb hby d7_7) rfl (tlt (by decide)).2.1 (XS.aloadN X8.here hx rfl (hb hby d7_10) rfl rfl (XS.iloadN X8.here hx rfl (hb hby d7_11) rfl k))))))))) ?_
  have vq10 := f9_1
  obtain ⟨cl10, Ar10, qa10, qs10, qn10, qh10, qg10⟩ := vq10
  have hin10 : ¬ ((3 : Int32) < 0 ∨ cl10.slots.size ≤ ((3 : Int32)).toNatClampNeg) := inb_of qs10 ⟨by decide, by decide⟩
  have hat10 : cl10.slots[((3 : Int32)).toNatClampNeg]? = some (.int c3) := Has.at qh10 hin10 rfl
  refine Wp.back (U' := (T8.setTop (mkF m 13 #[.val (.ref ca), .val (.int 3), .val (.ref ba), .val (.int 3), .val (.int 4), .val (.int 3), .val (.int c2)] [(.int c3)]))) (fun t k => X8.caload hx (j := (3 : Int32)) (v := (.int c3)) (by rw [e8]; exact Ar10.1) (State.isArrayOf_alike hZ.alike Ar10.2.1) Ar10.2.2 hin10 hat10 (g := (mkF m 12 #[.val (.ref ca), .val (.int 3), .val (.ref ba), .val (.int 3), .val (.int 4), .val (.int 3), .val (.int c2)] [(.int 3), (.ref ca)])) rfl rfl (hb hby d7_12) t k) ?_
  refine Wp.back (U' := (T8.setTop (mkF m 31 #[.val (.ref ca), .val (.int 3), .val (.ref ba), .val (.int 3), .val (.int 4), .val (.int 3), .val (.int c3)] [(.int (c3).toInt8.toInt32), (.int 3), (.ref ba)]))) (fun t k => XS.istore X8.here hx rfl (hb hby d7_13) rfl (l' := #[.val (.ref ca), .val (.int 3), .val (.ref ba), .val (.int 3), .val (.int 4), .val (.int 3), .val (.int c3)]) rfl (XS.iload X8.here hx rfl (hb hby d7_15) rfl (XT.sipushV X8.here hx rfl 255 (hb hby d7_17) (by decide) (XS.icmpYes X8.here hx rfl (pc0 := 20) (pc' := 26) rfl (hb hby d7_20) rfl (flt h2553).2.2.2 (by decide) (by decide) (XS.aloadN X8.here hx rfl (hb hby d7_26) rfl rfl (XS.iloadN X8.here hx rfl (hb hby d7_27) rfl (XS.iload X8.here hx rfl (hb hby d7_28) rfl (XS.i2b X8.here hx rfl (hb hby d7_30) rfl k)))))))) ?_
  have vq11 := V8
  obtain ⟨cl11, Ar11, qa11, qs11, qn11, qh11, qg11⟩ := vq11
  have hin11 : ¬ ((3 : Int32) < 0 ∨ cl11.slots.size ≤ ((3 : Int32)).toNatClampNeg) := inb_of qs11 ⟨by decide, by decide⟩
  obtain ⟨T11, h11, X11, e11, W11, st11⟩ := stB X8 hx hZ e8 Ar11 (j := (3 : Int32)) hin11 (g := (mkF m 31 #[.val (.ref ca), .val (.int 3), .val (.ref ba), .val (.int 3), .val (.int 4), .val (.int 3), .val (.int c3)] [(.int (c3).toInt8.toInt32), (.int 3), (.ref ba)])) rfl rfl (hb hby d7_31)
  have V11 : Arv Z h11 ba kb .byte (4 : Int32) [(.int (nar .byte (c0).toInt8.toInt32)), (.int (nar .byte (c1).toInt8.toInt32)), (.int (nar .byte (c2).toInt8.toInt32)), (.int (nar .byte (c3).toInt8.toInt32))] (.int 0) := Arv.set Ar11 qa11 qs11 qn11 qh11 qg11 (fits_nar_byte (c3).toInt8.toInt32) W11 3 rfl (Nat.le_of_ble_eq_true rfl)
  have f12_0 := Nat.le_trans f9_0 (Keep.of_wr W11).1
  have f12_1 := f9_1.other W11 ne_ca_ba
  have f12_2 := f9_2.wr W11 (Or.inl (List.mem_of_getElem? (i := 0) rfl))
  have N11 := Fr.snoc X11 N8 g_ba
  refine Wp.back (U' := (T11.setTop (mkF m 32 #[.val (.ref ca), .val (.int 3), .val (.ref ba), .val (.int 3), .val (.int 4), .val (.int 3), .val (.int c3)] []))) st11 ?_
  refine Wp.back (U' := (T11.setTop (mkF m 46 #[.val (.ref ca), .val (.int 4), .val (.ref ba), .val (.int 4), .val (.int 4), .val (.int 4), .val (.int c3)] [(.int 4)]))) (fun t k => XT.iincV X11.here hx rfl 1 (hb hby d7_32) (by decide) rfl (l' := #[.val (.ref ca), .val (.int 4), .val (.ref ba), .val (.int 3), .val (.int 4), .val (.int 3), .val (.int c3)]) rfl (XT.iincV X11.here hx rfl 1 (hb hby d7_35) (by decide) rfl (l' := #[.val (.ref ca), .val (.int 4), .val (.ref ba), .val (.int 4), .val (.int 4), .val (.int 3), .val (.int c3)]) rfl (XT.iincV X11.here hx rfl 1 (hb hby d7_38) (by decide) rfl (l' := #[.val (.ref ca), .val (.int 4), .val (.ref ba), .val (.int 4), .val (.int 4), .val (.int 4), .val (.int c3)]) rfl (XS.goto X11.here hx rfl (pc0 := 41) (pc' := 3) rfl (hb hby d7_41) (by decide) (by decide) (XS.iload X11.here hx rfl (hb hby d7_3) rfl (XS.iload X11.here hx rfl (hb hby d7_5) rfl (XS.icmpYes X11.here hx rfl (pc0 := 7) (pc' := 44) rfl (hb hby d7_7) rfl (flt (by decide)).2.1 (by decide) (by decide) (XS.iload X11.here hx rfl (hb hby d7_44) rfl k)))))))) ?_
  obtain ⟨fs, hr, hrun, hended, hW, hsame⟩ := X11.leave (v := (some (.int 4))) (fun h => by rw [hret] at h; cases h)
  refine Wp.done (retI X11 hx hret (hb hby d7_46) hr) hrun hended ⟨_, _, rfl, ?_, ⟨_, rfl⟩, hW, hsame.mono (by decide) (by decide)⟩
  show Q_cp2_4 Z ca ba kc c0 c1 c2 c3 kb h0 n0 _ T11.heap _
  rw [e11]
  exact ⟨rfl, N11, f12_2, V11⟩
def Q_cp2_5 (Z : State) (ca : Addr) (ba : Addr) (kc : ClassId) (c0 : Int32) (c1 : Int32) (c2 : Int32) (c3 : Int32) (c4 : Int32) (kb : ClassId) (h0 : Heap) (n0 : Nat) (v : Option Value) (h : Heap) (L : List Loc) : Prop := v = some (.int 5) ∧ Fr n0 L ∧ Keep h0 h [ba] ∧ Arv Z h ba kb .byte (5 : Int32) [(.int (nar .byte (c0).toInt8.toInt32)), (.int (nar .byte (c1).toInt8.toInt32)), (.int (nar .byte (c2).toInt8.toInt32)), (.int (nar .byte (c3).toInt8.toInt32)), (.int (nar .byte (c4).toInt8.toInt32))] (.int 0)
set_option maxRecDepth 65536 in
set_option maxHeartbeats 40000000 in
theorem rm_cp2_5 (l : Launch) (Z : State) (a0 : Array Value) (hw : ∀ d ∈ tables_1, d.before a0 Z = true) (ws : List Jvm.Cond) (ca : Addr) (ba : Addr) (kc : ClassId) (c0 : Int32) (c1 : Int32) (c2 : Int32) (c3 : Int32) (c4 : Int32) (kb : ClassId) (h0 : Heap) (n0 : Nat) (Z0 : n0 ≤ h0.size) (H0 : Arv Z h0 ca kc .char (5 : Int32) [(.int c0), (.int c1), (.int c2), (.int c3), (.int c4)] (.int 0)) (H1 : Arv Z h0 ba kb .byte (5 : Int32) [(.int 0), (.int 0), (.int 0), (.int 0), (.int 0)] (.int 0)) (g_ba : n0 ≤ ba) (ne_ca_ba : ca ≠ ba) (h2550 : ¬ (255 : Int32) < c0) (h2551 : ¬ (255 : Int32) < c1) (h2552 : ¬ (255 : Int32) < c2) (h2553 : ¬ (255 : Int32) < c3) (h2554 : ¬ (255 : Int32) < c4) :
    Met l Z Y22 jdk_52_method_21_code 7 (some .int) ws ({ frames := 0, cells := 0, slots := 0, locals := 0 } : Room) #[(.ref ca), (.int 0), (.ref ba), (.int 0), (.int 5)] h0 (Q_cp2_5 Z ca ba kc c0 c1 c2 c3 c4 kb h0 n0) := by
  refine own_body (plainFor_of_name pn7) ?_
  intro p e s m below meth c s₁ hx hby hret hlk hml hZ hown hnm X0 e0
  have N0 := Fr.nil n0
  refine Wp.back (U' := (s₁.setTop (mkF m 0 #[.val (.ref ca), .val (.int 0), .val (.ref ba), .val (.int 0), .val (.int 5), .unset, .unset] []))) (fun t k => castTop (ef7_RIRII m ca (0 : Int32) ba (0 : Int32) (5 : Int32)) k) ?_
  refine Wp.back (U' := (s₁.setTop (mkF m 12 #[.val (.ref ca), .val (.int 0), .val (.ref ba), .val (.int 0), .val (.int 5), .val (.int 0), .unset] [(.int 0), (.ref ca)]))) (fun t k => XT.iconstV X0.here hx rfl 0 (hb hby d7_0) (by decide) (XS.istore X0.here hx rfl (hb hby d7_1) rfl (l' := #[.val (.ref ca), .val (.int 0), .val (.ref ba), .val (.int 0), .val (.int 5), .val (.int 0), .unset]) rfl (XS.iload X0.here hx rfl (hb hby d7_3) rfl (XS.iload X0.here hx rfl (hb hby d7_5) rfl (XS.icmpNo X0.here hx rfl (hb hby d7_7) rfl (tlt (by decide)).2.1 (XS.aloadN X0.here hx rfl (hb hby d7_10) rfl rfl (XS.iloadN X0.here hx rfl (hb hby d7_11) rfl k))))))) ?_
  have vq1 := H0
  obtain ⟨cl1, Ar1, qa1, qs1, qn1, qh1, qg1⟩ := vq1
  have hin1 : ¬ ((0 : Int32) < 0 ∨ cl1.slots.size ≤ ((0 : Int32)).toNatClampNeg) := inb_of qs1 ⟨by decide, by decide⟩
  have hat1 : cl1.slots[((0 : Int32)).toNatClampNeg]? = some (.int c0) := Has.at qh1 hin1 rfl
  refine Wp.back (U' := (s₁.setTop (mkF m 13 #[.val (.ref ca), .val (.int 0), .val (.ref ba), .val (.int 0), .val (.int 5), .val (.int 0), .unset] [(.int c0)]))) (fun t k => X0.caload hx (j := (0 : Int32)) (v := (.int c0)) (by rw [e0]; exact Ar1.1) (State.isArrayOf_alike hZ.alike Ar1.2.1) Ar1.2.2 hin1 hat1 (g := (mkF m 12 #[.val (.ref ca), .val (.int 0), .val (.ref ba), .val (.int 0), .val (.int 5), .val (.int 0), .unset] [(.int 0), (.ref ca)])) rfl rfl (hb hby d7_12) t k) ?_
  refine Wp.back (U' := (s₁.setTop (mkF m 31 #[.val (.ref ca), .val (.int 0), .val (.ref ba), .val (.int 0), .val (.int 5), .val (.int 0), .val (.int c0)] [(.int (c0).toInt8.toInt32), (.int 0), (.ref ba)]))) (fun t k => XS.istore X0.here hx rfl (hb hby d7_13) rfl (l' := #[.val (.ref ca), .val (.int 0), .val (.ref ba), .val (.int 0), .val (.int 5), .val (.int 0), .val (.int c0)]) rfl (XS.iload X0.here hx rfl (hb hby d7_15) rfl (XT.sipushV X0.here hx rfl 255 (hb hby d7_17) (by decide) (XS.icmpYes X0.here hx rfl (pc0 := 20) (pc' := 26) rfl (hb hby d7_20) rfl (flt h2550).2.2.2 (by decide) (by decide) (XS.aloadN X0.here hx rfl (hb hby d7_26) rfl rfl (XS.iloadN X0.here hx rfl (hb hby d7_27) rfl (XS.iload X0.here hx rfl (hb hby d7_28) rfl (XS.i2b X0.here hx rfl (hb hby d7_30) rfl k)))))))) ?_
  have vq2 := H1
  obtain ⟨cl2, Ar2, qa2, qs2, qn2, qh2, qg2⟩ := vq2
  have hin2 : ¬ ((0 : Int32) < 0 ∨ cl2.slots.size ≤ ((0 : Int32)).toNatClampNeg) := inb_of qs2 ⟨by decide, by decide⟩
  obtain ⟨T2, h2, X2, e2, W2, st2⟩ := stB X0 hx hZ e0 Ar2 (j := (0 : Int32)) hin2 (g := (mkF m 31 #[.val (.ref ca), .val (.int 0), .val (.ref ba), .val (.int 0), .val (.int 5), .val (.int 0), .val (.int c0)] [(.int (c0).toInt8.toInt32), (.int 0), (.ref ba)])) rfl rfl (hb hby d7_31)
  have V2 : Arv Z h2 ba kb .byte (5 : Int32) [(.int (nar .byte (c0).toInt8.toInt32)), (.int 0), (.int 0), (.int 0), (.int 0)] (.int 0) := Arv.set Ar2 qa2 qs2 qn2 qh2 qg2 (fits_nar_byte (c0).toInt8.toInt32) W2 0 rfl (Nat.le_of_ble_eq_true rfl)
  have f3_0 := Nat.le_trans Z0 (Keep.of_wr W2).1
  have f3_1 := H0.other W2 ne_ca_ba
  have f3_2 := (Keep.refl h0 [ba]).wr W2 (Or.inl (List.mem_of_getElem? (i := 0) rfl))
  have N2 := Fr.snoc X2 N0 g_ba
  refine Wp.back (U' := (T2.setTop (mkF m 32 #[.val (.ref ca), .val (.int 0), .val (.ref ba), .val (.int 0), .val (.int 5), .val (.int 0), .val (.int c0)] []))) st2 ?_
  refine Wp.back (U' := (T2.setTop (mkF m 12 #[.val (.ref ca), .val (.int 1), .val (.ref ba), .val (.int 1), .val (.int 5), .val (.int 1), .val (.int c0)] [(.int 1), (.ref ca)]))) (fun t k => XT.iincV X2.here hx rfl 1 (hb hby d7_32) (by decide) rfl (l' := #[.val (.ref ca), .val (.int 1), .val (.ref ba), .val (.int 0), .val (.int 5), .val (.int 0), .val (.int c0)]) rfl (XT.iincV X2.here hx rfl 1 (hb hby d7_35) (by decide) rfl (l' := #[.val (.ref ca), .val (.int 1), .val (.ref ba), .val (.int 1), .val (.int 5), .val (.int 0), .val (.int c0)]) rfl (XT.iincV X2.here hx rfl 1 (hb hby d7_38) (by decide) rfl (l' := #[.val (.ref ca), .val (.int 1), .val (.ref ba), .val (.int 1), .val (.int 5), .val (.int 1), .val (.int c0)]) rfl (XS.goto X2.here hx rfl (pc0 := 41) (pc' := 3) rfl (hb hby d7_41) (by decide) (by decide) (XS.iload X2.here hx rfl (hb hby d7_3) rfl (XS.iload X2.here hx rfl (hb hby d7_5) rfl (XS.icmpNo X2.here hx rfl (hb hby d7_7) rfl (tlt (by decide)).2.1 (XS.aloadN X2.here hx rfl (hb hby d7_10) rfl rfl (XS.iloadN X2.here hx rfl (hb hby d7_11) rfl k))))))))) ?_
  have vq4 := f3_1
  obtain ⟨cl4, Ar4, qa4, qs4, qn4, qh4, qg4⟩ := vq4
  have hin4 : ¬ ((1 : Int32) < 0 ∨ cl4.slots.size ≤ ((1 : Int32)).toNatClampNeg) := inb_of qs4 ⟨by decide, by decide⟩
  have hat4 : cl4.slots[((1 : Int32)).toNatClampNeg]? = some (.int c1) := Has.at qh4 hin4 rfl
  refine Wp.back (U' := (T2.setTop (mkF m 13 #[.val (.ref ca), .val (.int 1), .val (.ref ba), .val (.int 1), .val (.int 5), .val (.int 1), .val (.int c0)] [(.int c1)]))) (fun t k => X2.caload hx (j := (1 : Int32)) (v := (.int c1)) (by rw [e2]; exact Ar4.1) (State.isArrayOf_alike hZ.alike Ar4.2.1) Ar4.2.2 hin4 hat4 (g := (mkF m 12 #[.val (.ref ca), .val (.int 1), .val (.ref ba), .val (.int 1), .val (.int 5), .val (.int 1), .val (.int c0)] [(.int 1), (.ref ca)])) rfl rfl (hb hby d7_12) t k) ?_
  refine Wp.back (U' := (T2.setTop (mkF m 31 #[.val (.ref ca), .val (.int 1), .val (.ref ba), .val (.int 1), .val (.int 5), .val (.int 1), .val (.int c1)] [(.int (c1).toInt8.toInt32), (.int 1), (.ref ba)]))) (fun t k => XS.istore X2.here hx rfl (hb hby d7_13) rfl (l' := #[.val (.ref ca), .val (.int 1), .val (.ref ba), .val (.int 1), .val (.int 5), .val (.int 1), .val (.int c1)]) rfl (XS.iload X2.here hx rfl (hb hby d7_15) rfl (XT.sipushV X2.here hx rfl 255 (hb hby d7_17) (by decide) (XS.icmpYes X2.here hx rfl (pc0 := 20) (pc' := 26) rfl (hb hby d7_20) rfl (flt h2551).2.2.2 (by decide) (by decide) (XS.aloadN X2.here hx rfl (hb hby d7_26) rfl rfl (XS.iloadN X2.here hx rfl (hb hby d7_27) rfl (XS.iload X2.here hx rfl (hb hby d7_28) rfl (XS.i2b X2.here hx rfl (hb hby d7_30) rfl k)))))))) ?_
  have vq5 := V2
  obtain ⟨cl5, Ar5, qa5, qs5, qn5, qh5, qg5⟩ := vq5
  have hin5 : ¬ ((1 : Int32) < 0 ∨ cl5.slots.size ≤ ((1 : Int32)).toNatClampNeg) := inb_of qs5 ⟨by decide, by decide⟩
  obtain ⟨T5, h5, X5, e5, W5, st5⟩ := stB X2 hx hZ e2 Ar5 (j := (1 : Int32)) hin5 (g := (mkF m 31 #[.val (.ref ca), .val (.int 1), .val (.ref ba), .val (.int 1), .val (.int 5), .val (.int 1), .val (.int c1)] [(.int (c1).toInt8.toInt32), (.int 1), (.ref ba)])) rfl rfl (hb hby d7_31)
  have V5 : Arv Z h5 ba kb .byte (5 : Int32) [(.int (nar .byte (c0).toInt8.toInt32)), (.int (nar .byte (c1).toInt8.toInt32)), (.int 0), (.int 0), (.int 0)] (.int 0) := Arv.set Ar5 qa5 qs5 qn5 qh5 qg5 (fits_nar_byte (c1).toInt8.toInt32) W5 1 rfl (Nat.le_of_ble_eq_true rfl)
  have f6_0 := Nat.le_trans f3_0 (Keep.of_wr W5).1
  have f6_1 := f3_1.other W5 ne_ca_ba
  have f6_2 := f3_2.wr W5 (Or.inl (List.mem_of_getElem? (i := 0) rfl))
  have N5 := Fr.snoc X5 N2 g_ba
  refine Wp.back (U' := (T5.setTop (mkF m 32 #[.val (.ref ca), .val (.int 1), .val (.ref ba), .val (.int 1), .val (.int 5), .val (.int 1), .val (.int c1)] []))) st5 ?_
  refine Wp.back (U' := (T5.setTop (mkF m 12 #[.val (.ref ca), .val (.int 2), .val (.ref ba), .val (.int 2), .val (.int 5), .val (.int 2), .val (.int c1)] [(.int 2), (.ref ca)]))) (fun t k => XT.iincV X5.here hx rfl 1 (hb hby d7_32) (by decide) rfl (l' := #[.val (.ref ca), .val (.int 2), .val (.ref ba), .val (.int 1), .val (.int 5), .val (.int 1), .val (.int c1)]) rfl (XT.iincV X5.here hx rfl 1 (hb hby d7_35) (by decide) rfl (l' := #[.val (.ref ca), .val (.int 2), .val (.ref ba), .val (.int 2), .val (.int 5), .val (.int 1), .val (.int c1)]) rfl (XT.iincV X5.here hx rfl 1 (hb hby d7_38) (by decide) rfl (l' := #[.val (.ref ca), .val (.int 2), .val (.ref ba), .val (.int 2), .val (.int 5), .val (.int 2), .val (.int c1)]) rfl (XS.goto X5.here hx rfl (pc0 := 41) (pc' := 3) rfl (hb hby d7_41) (by decide) (by decide) (XS.iload X5.here hx rfl (hb hby d7_3) rfl (XS.iload X5.here hx rfl (hb hby d7_5) rfl (XS.icmpNo X5.here hx rfl (hb hby d7_7) rfl (tlt (by decide)).2.1 (XS.aloadN X5.here hx rfl (hb hby d7_10) rfl rfl (XS.iloadN X5.here hx rfl (hb hby d7_11) rfl k))))))))) ?_
  have vq7 := f6_1
  obtain ⟨cl7, Ar7, qa7, qs7, qn7, qh7, qg7⟩ := vq7
  have hin7 : ¬ ((2 : Int32) < 0 ∨ cl7.slots.size ≤ ((2 : Int32)).toNatClampNeg) := inb_of qs7 ⟨by decide, by decide⟩
  have hat7 : cl7.slots[((2 : Int32)).toNatClampNeg]? = some (.int c2) := Has.at qh7 hin7 rfl
  refine Wp.back (U' := (T5.setTop (mkF m 13 #[.val (.ref ca), .val (.int 2), .val (.ref ba), .val (.int 2), .val (.int 5), .val (.int 2), .val (.int c1)] [(.int c2)]))) (fun t k => X5.caload hx (j := (2 : Int32)) (v := (.int c2)) (by rw [e5]; exact Ar7.1) (State.isArrayOf_alike hZ.alike Ar7.2.1) Ar7.2.2 hin7 hat7 (g := (mkF m 12 #[.val (.ref ca), .val (.int 2), .val (.ref ba), .val (.int 2), .val (.int 5), .val (.int 2), .val (.int c1)] [(.int 2), (.ref ca)])) rfl rfl (hb hby d7_12) t k) ?_
  refine Wp.back (U' := (T5.setTop (mkF m 31 #[.val (.ref ca), .val (.int 2), .val (.ref ba), .val (.int 2), .val (.int 5), .val (.int 2), .val (.int c2)] [(.int (c2).toInt8.toInt32), (.int 2), (.ref ba)]))) (fun t k => XS.istore X5.here hx rfl (hb hby d7_13) rfl (l' := #[.val (.ref ca), .val (.int 2), .val (.ref ba), .val (.int 2), .val (.int 5), .val (.int 2), .val (.int c2)]) rfl (XS.iload X5.here hx rfl (hb hby d7_15) rfl (XT.sipushV X5.here hx rfl 255 (hb hby d7_17) (by decide) (XS.icmpYes X5.here hx rfl (pc0 := 20) (pc' := 26) rfl (hb hby d7_20) rfl (flt h2552).2.2.2 (by decide) (by decide) (XS.aloadN X5.here hx rfl (hb hby d7_26) rfl rfl (XS.iloadN X5.here hx rfl (hb hby d7_27) rfl (XS.iload X5.here hx rfl (hb hby d7_28) rfl (XS.i2b X5.here hx rfl (hb hby d7_30) rfl k)))))))) ?_
  have vq8 := V5
  obtain ⟨cl8, Ar8, qa8, qs8, qn8, qh8, qg8⟩ := vq8
  have hin8 : ¬ ((2 : Int32) < 0 ∨ cl8.slots.size ≤ ((2 : Int32)).toNatClampNeg) := inb_of qs8 ⟨by decide, by decide⟩
  obtain ⟨T8, h8, X8, e8, W8, st8⟩ := stB X5 hx hZ e5 Ar8 (j := (2 : Int32)) hin8 (g := (mkF m 31 #[.val (.ref ca), .val (.int 2), .val (.ref ba), .val (.int 2), .val (.int 5), .val (.int 2), .val (.int c2)] [(.int (c2).toInt8.toInt32), (.int 2), (.ref ba)])) rfl rfl (hb hby d7_31)
  have V8 : Arv Z h8 ba kb .byte (5 : Int32) [(.int (nar .byte (c0).toInt8.toInt32)), (.int (nar .byte (c1).toInt8.toInt32)), (.int (nar .byte (c2).toInt8.toInt32)), (.int 0), (.int 0)] (.int 0) := Arv.set Ar8 qa8 qs8 qn8 qh8 qg8 (fits_nar_byte (c2).toInt8.toInt32) W8 2 rfl (Nat.le_of_ble_eq_true rfl)
  have f9_0 := Nat.le_trans f6_0 (Keep.of_wr W8).1
  have f9_1 := f6_1.other W8 ne_ca_ba
  have f9_2 := f6_2.wr W8 (Or.inl (List.mem_of_getElem? (i := 0) rfl))
  have N8 := Fr.snoc X8 N5 g_ba
  refine Wp.back (U' := (T8.setTop (mkF m 32 #[.val (.ref ca), .val (.int 2), .val (.ref ba), .val (.int 2), .val (.int 5), .val (.int 2), .val (.int c2)] []))) st8 ?_
  refine Wp.back (U' := (T8.setTop (mkF m 12 #[.val (.ref ca), .val (.int 3), .val (.ref ba), .val (.int 3), .val (.int 5), .val (.int 3), .val (.int c2)] [(.int 3), (.ref ca)]))) (fun t k => XT.iincV X8.here hx rfl 1 (hb hby d7_32) (by decide) rfl (l' := #[.val (.ref ca), .val (.int 3), .val (.ref ba), .val (.int 2), .val (.int 5), .val (.int 2), .val (.int c2)]) rfl (XT.iincV X8.here hx rfl 1 (hb hby d7_35) (by decide) rfl (l' := #[.val (.ref ca), .val (.int 3), .val (.ref ba), .val (.int 3), .val (.int 5), .val (.int 2), .val (.int c2)]) rfl (XT.iincV X8.here hx rfl 1 (hb hby d7_38) (by decide) rfl (l' := #[.val (.ref ca), .val (.int 3), .val (.ref ba), .val (.int 3), .val (.int 5), .val (.int 3), .val (.int c2)]) rfl (XS.goto X8.here hx rfl (pc0 := 41) (pc' := 3) rfl (hb hby d7_41) (by decide) (by decide) (XS.iload X8.here hx rfl (hb hby d7_3) rfl (XS.iload X8.here hx rfl (hb hby d7_5) rfl (XS.icmpNo X8.here hx rfl (hb hby d7_7) rfl (tlt (by decide)).2.1 (XS.aloadN X8.here hx rfl (hb hby d7_10) rfl rfl (XS.iloadN X8.here hx rfl (hb hby d7_11) rfl k))))))))) ?_
  have vq10 := f9_1
  obtain ⟨cl10, Ar10, qa10, qs10, qn10, qh10, qg10⟩ := vq10
  have hin10 : ¬ ((3 : Int32) < 0 ∨ cl10.slots.size ≤ ((3 : Int32)).toNatClampNeg) := inb_of qs10 ⟨by decide, by decide⟩
  have hat10 : cl10.slots[((3 : Int32)).toNatClampNeg]? = some (.int c3) := Has.at qh10 hin10 rfl
  refine Wp.back (U' := (T8.setTop (mkF m 13 #[.val (.ref ca), .val (.int 3), .val (.ref ba), .val (.int 3), .val (.int 5), .val (.int 3), .val (.int c2)] [(.int c3)]))) (fun t k => X8.caload hx (j := (3 : Int32)) (v := (.int c3)) (by rw [e8]; exact Ar10.1) (State.isArrayOf_alike hZ.alike Ar10.2.1) Ar10.2.2 hin10 hat10 (g := (mkF m 12 #[.val (.ref ca), .val (.int 3), .val (.ref ba), .val (.int 3), .val (.int 5), .val (.int 3), .val (.int c2)] [(.int 3), (.ref ca)])) rfl rfl (hb hby d7_12) t k) ?_
  refine Wp.back (U' := (T8.setTop (mkF m 31 #[.val (.ref ca), .val (.int 3), .val (.ref ba), .val (.int 3), .val (.int 5), .val (.int 3), .val (.int c3)] [(.int (c3).toInt8.toInt32), (.int 3), (.ref ba)]))) (fun t k => XS.istore X8.here hx rfl (hb hby d7_13) rfl (l' := #[.val (.ref ca), .val (.int 3), .val (.ref ba), .val (.int 3), .val (.int 5), .val (.int 3), .val (.int c3)]) rfl (XS.iload X8.here hx rfl (hb hby d7_15) rfl (XT.sipushV X8.here hx rfl 255 (hb hby d7_17) (by decide) (XS.icmpYes X8.here hx rfl (pc0 := 20) (pc' := 26) rfl (hb hby d7_20) rfl (flt h2553).2.2.2 (by decide) (by decide) (XS.aloadN X8.here hx rfl (hb hby d7_26) rfl rfl (XS.iloadN X8.here hx rfl (hb hby d7_27) rfl (XS.iload X8.here hx rfl (hb hby d7_28) rfl (XS.i2b X8.here hx rfl (hb hby d7_30) rfl k)))))))) ?_
  have vq11 := V8
  obtain ⟨cl11, Ar11, qa11, qs11, qn11, qh11, qg11⟩ := vq11
  have hin11 : ¬ ((3 : Int32) < 0 ∨ cl11.slots.size ≤ ((3 : Int32)).toNatClampNeg) := inb_of qs11 ⟨by decide, by decide⟩
  obtain ⟨T11, h11, X11, e11, W11, st11⟩ := stB X8 hx hZ e8 Ar11 (j := (3 : Int32)) hin11 (g := (mkF m 31 #[.val (.ref ca), .val (.int 3), .val (.ref ba), .val (.int 3), .val (.int 5), .val (.int 3), .val (.int c3)] [(.int (c3).toInt8.toInt32), (.int 3), (.ref ba)])) rfl rfl (hb hby d7_31)
  have V11 : Arv Z h11 ba kb .byte (5 : Int32) [(.int (nar .byte (c0).toInt8.toInt32)), (.int (nar .byte (c1).toInt8.toInt32)), (.int (nar .byte (c2).toInt8.toInt32)), (.int (nar .byte (c3).toInt8.toInt32)), (.int 0)] (.int 0) := Arv.set Ar11 qa11 qs11 qn11 qh11 qg11 (fits_nar_byte (c3).toInt8.toInt32) W11 3 rfl (Nat.le_of_ble_eq_true rfl)
  have f12_0 := Nat.le_trans f9_0 (Keep.of_wr W11).1
  have f12_1 := f9_1.other W11 ne_ca_ba
  have f12_2 := f9_2.wr W11 (Or.inl (List.mem_of_getElem? (i := 0) rfl))
  have N11 := Fr.snoc X11 N8 g_ba
  refine Wp.back (U' := (T11.setTop (mkF m 32 #[.val (.ref ca), .val (.int 3), .val (.ref ba), .val (.int 3), .val (.int 5), .val (.int 3), .val (.int c3)] []))) st11 ?_
  refine Wp.back (U' := (T11.setTop (mkF m 12 #[.val (.ref ca), .val (.int 4), .val (.ref ba), .val (.int 4), .val (.int 5), .val (.int 4), .val (.int c3)] [(.int 4), (.ref ca)]))) (fun t k => XT.iincV X11.here hx rfl 1 (hb hby d7_32) (by decide) rfl (l' := #[.val (.ref ca), .val (.int 4), .val (.ref ba), .val (.int 3), .val (.int 5), .val (.int 3), .val (.int c3)]) rfl (XT.iincV X11.here hx rfl 1 (hb hby d7_35) (by decide) rfl (l' := #[.val (.ref ca), .val (.int 4), .val (.ref ba), .val (.int 4), .val (.int 5), .val (.int 3), .val (.int c3)]) rfl (XT.iincV X11.here hx rfl 1 (hb hby d7_38) (by decide) rfl (l' := #[.val (.ref ca), .val (.int 4), .val (.ref ba), .val (.int 4), .val (.int 5), .val (.int 4), .val (.int c3)]) rfl (XS.goto X11.here hx rfl (pc0 := 41) (pc' := 3) rfl (hb hby d7_41) (by decide) (by decide) (XS.iload X11.here hx rfl (hb hby d7_3) rfl (XS.iload X11.here hx rfl (hb hby d7_5) rfl (XS.icmpNo X11.here hx rfl (hb hby d7_7) rfl (tlt (by decide)).2.1 (XS.aloadN X11.here hx rfl (hb hby d7_10) rfl rfl (XS.iloadN X11.here hx rfl (hb hby d7_11) rfl k))))))))) ?_
  have vq13 := f12_1
  obtain ⟨cl13, Ar13, qa13, qs13, qn13, qh13, qg13⟩ := vq13
  have hin13 : ¬ ((4 : Int32) < 0 ∨ cl13.slots.size ≤ ((4 : Int32)).toNatClampNeg) := inb_of qs13 ⟨by decide, by decide⟩
  have hat13 : cl13.slots[((4 : Int32)).toNatClampNeg]? = some (.int c4) := Has.at qh13 hin13 rfl
  refine Wp.back (U' := (T11.setTop (mkF m 13 #[.val (.ref ca), .val (.int 4), .val (.ref ba), .val (.int 4), .val (.int 5), .val (.int 4), .val (.int c3)] [(.int c4)]))) (fun t k => X11.caload hx (j := (4 : Int32)) (v := (.int c4)) (by rw [e11]; exact Ar13.1) (State.isArrayOf_alike hZ.alike Ar13.2.1) Ar13.2.2 hin13 hat13 (g := (mkF m 12 #[.val (.ref ca), .val (.int 4), .val (.ref ba), .val (.int 4), .val (.int 5), .val (.int 4), .val (.int c3)] [(.int 4), (.ref ca)])) rfl rfl (hb hby d7_12) t k) ?_
  refine Wp.back (U' := (T11.setTop (mkF m 31 #[.val (.ref ca), .val (.int 4), .val (.ref ba), .val (.int 4), .val (.int 5), .val (.int 4), .val (.int c4)] [(.int (c4).toInt8.toInt32), (.int 4), (.ref ba)]))) (fun t k => XS.istore X11.here hx rfl (hb hby d7_13) rfl (l' := #[.val (.ref ca), .val (.int 4), .val (.ref ba), .val (.int 4), .val (.int 5), .val (.int 4), .val (.int c4)]) rfl (XS.iload X11.here hx rfl (hb hby d7_15) rfl (XT.sipushV X11.here hx rfl 255 (hb hby d7_17) (by decide) (XS.icmpYes X11.here hx rfl (pc0 := 20) (pc' := 26) rfl (hb hby d7_20) rfl (flt h2554).2.2.2 (by decide) (by decide) (XS.aloadN X11.here hx rfl (hb hby d7_26) rfl rfl (XS.iloadN X11.here hx rfl (hb hby d7_27) rfl (XS.iload X11.here hx rfl (hb hby d7_28) rfl (XS.i2b X11.here hx rfl (hb hby d7_30) rfl k)))))))) ?_
  have vq14 := V11
  obtain ⟨cl14, Ar14, qa14, qs14, qn14, qh14, qg14⟩ := vq14
  have hin14 : ¬ ((4 : Int32) < 0 ∨ cl14.slots.size ≤ ((4 : Int32)).toNatClampNeg) := inb_of qs14 ⟨by decide, by decide⟩
  obtain ⟨T14, h14, X14, e14, W14, st14⟩ := stB X11 hx hZ e11 Ar14 (j := (4 : Int32)) hin14 (g := (mkF m 31 #[.val (.ref ca), .val (.int 4), .val (.ref ba), .val (.int 4), .val (.int 5), .val (.int 4), .val (.int c4)] [(.int (c4).toInt8.toInt32), (.int 4), (.ref ba)])) rfl rfl (hb hby d7_31)
  have V14 : Arv Z h14 ba kb .byte (5 : Int32) [(.int (nar .byte (c0).toInt8.toInt32)), (.int (nar .byte (c1).toInt8.toInt32)), (.int (nar .byte (c2).toInt8.toInt32)), (.int (nar .byte (c3).toInt8.toInt32)), (.int (nar .byte (c4).toInt8.toInt32))] (.int 0) := Arv.set Ar14 qa14 qs14 qn14 qh14 qg14 (fits_nar_byte (c4).toInt8.toInt32) W14 4 rfl (Nat.le_of_ble_eq_true rfl)
  have f15_0 := Nat.le_trans f12_0 (Keep.of_wr W14).1
  have f15_1 := f12_1.other W14 ne_ca_ba
  have f15_2 := f12_2.wr W14 (Or.inl (List.mem_of_getElem? (i := 0) rfl))
  have N14 := Fr.snoc X14 N11 g_ba
  refine Wp.back (U' := (T14.setTop (mkF m 32 #[.val (.ref ca), .val (.int 4), .val (.ref ba), .val (.int 4), .val (.int 5), .val (.int 4), .val (.int c4)] []))) st14 ?_
  refine Wp.back (U' := (T14.setTop (mkF m 46 #[.val (.ref ca), .val (.int 5), .val (.ref ba), .val (.int 5), .val (.int 5), .val (.int 5), .val (.int c4)] [(.int 5)]))) (fun t k => XT.iincV X14.here hx rfl 1 (hb hby d7_32) (by decide) rfl (l' := #[.val (.ref ca), .val (.int 5), .val (.ref ba), .val (.int 4), .val (.int 5), .val (.int 4), .val (.int c4)]) rfl (XT.iincV X14.here hx rfl 1 (hb hby d7_35) (by decide) rfl (l' := #[.val (.ref ca), .val (.int 5), .val (.ref ba), .val (.int 5), .val (.int 5), .val (.int 4), .val (.int c4)]) rfl (XT.iincV X14.here hx rfl 1 (hb hby d7_38) (by decide) rfl (l' := #[.val (.ref ca), .val (.int 5), .val (.ref ba), .val (.int 5), .val (.int 5), .val (.int 5), .val (.int c4)]) rfl (XS.goto X14.here hx rfl (pc0 := 41) (pc' := 3) rfl (hb hby d7_41) (by decide) (by decide) (XS.iload X14.here hx rfl (hb hby d7_3) rfl (XS.iload X14.here hx rfl (hb hby d7_5) rfl (XS.icmpYes X14.here hx rfl (pc0 := 7) (pc' := 44) rfl (hb hby d7_7) rfl (flt (by decide)).2.1 (by decide) (by decide) (XS.iload X14.here hx rfl (hb hby d7_44) rfl k)))))))) ?_
  obtain ⟨fs, hr, hrun, hended, hW, hsame⟩ := X14.leave (v := (some (.int 5))) (fun h => by rw [hret] at h; cases h)
  refine Wp.done (retI X14 hx hret (hb hby d7_46) hr) hrun hended ⟨_, _, rfl, ?_, ⟨_, rfl⟩, hW, hsame.mono (by decide) (by decide)⟩
  show Q_cp2_5 Z ca ba kc c0 c1 c2 c3 c4 kb h0 n0 _ T14.heap _
  rw [e14]
  exact ⟨rfl, N14, f15_2, V14⟩
def own_CP (n : Int32) (cl bs : List Value) : Prop := (n = (1 : Int32) ∧ ∃ c0 : Int32, ¬ (255 : Int32) < c0 ∧ cl = [(.int c0)] ∧ bs = [(.int (nar .byte (c0).toInt8.toInt32))]) ∨ (n = (2 : Int32) ∧ ∃ c0 : Int32, ∃ c1 : Int32, ¬ (255 : Int32) < c0 ∧ ¬ (255 : Int32) < c1 ∧ cl = [(.int c0), (.int c1)] ∧ bs = [(.int (nar .byte (c0).toInt8.toInt32)), (.int (nar .byte (c1).toInt8.toInt32))]) ∨ (n = (3 : Int32) ∧ ∃ c0 : Int32, ∃ c1 : Int32, ∃ c2 : Int32, ¬ (255 : Int32) < c0 ∧ ¬ (255 : Int32) < c1 ∧ ¬ (255 : Int32) < c2 ∧ cl = [(.int c0), (.int c1), (.int c2)] ∧ bs = [(.int (nar .byte (c0).toInt8.toInt32)), (.int (nar .byte (c1).toInt8.toInt32)), (.int (nar .byte (c2).toInt8.toInt32))]) ∨ (n = (4 : Int32) ∧ ∃ c0 : Int32, ∃ c1 : Int32, ∃ c2 : Int32, ∃ c3 : Int32, ¬ (255 : Int32) < c0 ∧ ¬ (255 : Int32) < c1 ∧ ¬ (255 : Int32) < c2 ∧ ¬ (255 : Int32) < c3 ∧ cl = [(.int c0), (.int c1), (.int c2), (.int c3)] ∧ bs = [(.int (nar .byte (c0).toInt8.toInt32)), (.int (nar .byte (c1).toInt8.toInt32)), (.int (nar .byte (c2).toInt8.toInt32)), (.int (nar .byte (c3).toInt8.toInt32))]) ∨ (n = (5 : Int32) ∧ ∃ c0 : Int32, ∃ c1 : Int32, ∃ c2 : Int32, ∃ c3 : Int32, ∃ c4 : Int32, ¬ (255 : Int32) < c0 ∧ ¬ (255 : Int32) < c1 ∧ ¬ (255 : Int32) < c2 ∧ ¬ (255 : Int32) < c3 ∧ ¬ (255 : Int32) < c4 ∧ cl = [(.int c0), (.int c1), (.int c2), (.int c3), (.int c4)] ∧ bs = [(.int (nar .byte (c0).toInt8.toInt32)), (.int (nar .byte (c1).toInt8.toInt32)), (.int (nar .byte (c2).toInt8.toInt32)), (.int (nar .byte (c3).toInt8.toInt32)), (.int (nar .byte (c4).toInt8.toInt32))])
theorem own_cp0 {n : Int32} {cl bs : List Value} (h : own_CP n cl bs) : ¬ n < 0 ∧ ¬ n = (0 : Int32) ∧ n.toNatClampNeg ≤ 65 := by
  rcases h with ⟨rfl, -⟩ | ⟨rfl, -⟩ | ⟨rfl, -⟩ | ⟨rfl, -⟩ | ⟨rfl, -⟩ <;> decide
theorem own_mk1 {c0 : Int32} (h0 : ¬ (255 : Int32) < c0) : own_CP (1 : Int32) [(.int c0)] [(.int (nar .byte (c0).toInt8.toInt32))] := Or.inl ⟨rfl, _, h0, rfl, rfl⟩
theorem own_mk2 {c0 c1 : Int32} (h0 : ¬ (255 : Int32) < c0) (h1 : ¬ (255 : Int32) < c1) : own_CP (2 : Int32) [(.int c0), (.int c1)] [(.int (nar .byte (c0).toInt8.toInt32)), (.int (nar .byte (c1).toInt8.toInt32))] := Or.inr (Or.inl ⟨rfl, _, _, h0, h1, rfl, rfl⟩)
theorem own_mk3 {c0 c1 c2 : Int32} (h0 : ¬ (255 : Int32) < c0) (h1 : ¬ (255 : Int32) < c1) (h2 : ¬ (255 : Int32) < c2) : own_CP (3 : Int32) [(.int c0), (.int c1), (.int c2)] [(.int (nar .byte (c0).toInt8.toInt32)), (.int (nar .byte (c1).toInt8.toInt32)), (.int (nar .byte (c2).toInt8.toInt32))] := Or.inr (Or.inr (Or.inl ⟨rfl, _, _, _, h0, h1, h2, rfl, rfl⟩))
theorem own_mk4 {c0 c1 c2 c3 : Int32} (h0 : ¬ (255 : Int32) < c0) (h1 : ¬ (255 : Int32) < c1) (h2 : ¬ (255 : Int32) < c2) (h3 : ¬ (255 : Int32) < c3) : own_CP (4 : Int32) [(.int c0), (.int c1), (.int c2), (.int c3)] [(.int (nar .byte (c0).toInt8.toInt32)), (.int (nar .byte (c1).toInt8.toInt32)), (.int (nar .byte (c2).toInt8.toInt32)), (.int (nar .byte (c3).toInt8.toInt32))] := Or.inr (Or.inr (Or.inr (Or.inl ⟨rfl, _, _, _, _, h0, h1, h2, h3, rfl, rfl⟩)))
theorem own_mk5 {c0 c1 c2 c3 c4 : Int32} (h0 : ¬ (255 : Int32) < c0) (h1 : ¬ (255 : Int32) < c1) (h2 : ¬ (255 : Int32) < c2) (h3 : ¬ (255 : Int32) < c3) (h4 : ¬ (255 : Int32) < c4) : own_CP (5 : Int32) [(.int c0), (.int c1), (.int c2), (.int c3), (.int c4)] [(.int (nar .byte (c0).toInt8.toInt32)), (.int (nar .byte (c1).toInt8.toInt32)), (.int (nar .byte (c2).toInt8.toInt32)), (.int (nar .byte (c3).toInt8.toInt32)), (.int (nar .byte (c4).toInt8.toInt32))] := Or.inr (Or.inr (Or.inr (Or.inr (⟨rfl, _, _, _, _, _, h0, h1, h2, h3, h4, rfl, rfl⟩))))
def Q_cp2g (Z : State) (ca ba : Addr) (n : Int32) (bs : List Value) (kb : ClassId) (h0 : Heap) (n0 : Nat) (v : Option Value) (h : Heap) (L : List Loc) : Prop := v = some (.int n) ∧ Fr n0 L ∧ Keep h0 h [ba] ∧ Arv Z h ba kb .byte n bs (.int 0)
theorem rm_cp2g (l : Launch) (Z : State) (a0 : Array Value) (hw : ∀ d ∈ tables_1, d.before a0 Z = true) (ws : List Jvm.Cond) (ca ba : Addr) (kc : ClassId) (n : Int32) (cl bs : List Value) (kb : ClassId) (h0 : Heap) (n0 : Nat) (Z0 : n0 ≤ h0.size) (H0 : Arv Z h0 ca kc .char n cl (.int 0)) (H1 : Arv Z h0 ba kb .byte n [] (.int 0)) (g_ba : n0 ≤ ba) (ne_ca_ba : ca ≠ ba) (hcp : own_CP n cl bs) :
    MetFree l Y22 (head1 (Jvm.Cond.code Y22 jdk_52_method_21_code 7 (some .int) :: ws) ({ frames := 0, cells := 0, slots := 0, locals := 0 } : Room)) (fun a U => a = #[(.ref ca), (.int 0), (.ref ba), (.int 0), (.int n)] ∧ Z.Warmed39 U.vm ∧ U.heap = h0) (fun _ _ _ _ _ => True) (fun _ U o U' => ∃ v L, o = .returned v ∧ Q_cp2g Z ca ba n bs kb h0 n0 v U'.heap L ∧ FrameEnd U o U' L ({ frames := 0, cells := 0, slots := 0, locals := 0 } : Room).cells ({ frames := 0, cells := 0, slots := 0, locals := 0 } : Room).slots) := by
  rcases hcp with ⟨rfl, c0, hq0, rfl, rfl⟩ | ⟨rfl, c0, c1, hq0, hq1, rfl, rfl⟩ | ⟨rfl, c0, c1, c2, hq0, hq1, hq2, rfl, rfl⟩ | ⟨rfl, c0, c1, c2, c3, hq0, hq1, hq2, hq3, rfl, rfl⟩ | ⟨rfl, c0, c1, c2, c3, c4, hq0, hq1, hq2, hq3, hq4, rfl, rfl⟩
  · exact rm_cp2_1 l Z a0 hw ws ca ba kc c0 kb h0 n0 Z0 H0 (H1.pad (pad_rep [] _ 1)) g_ba ne_ca_ba hq0
  · exact rm_cp2_2 l Z a0 hw ws ca ba kc c0 c1 kb h0 n0 Z0 H0 (H1.pad (pad_rep [] _ 2)) g_ba ne_ca_ba hq0 hq1
  · exact rm_cp2_3 l Z a0 hw ws ca ba kc c0 c1 c2 kb h0 n0 Z0 H0 (H1.pad (pad_rep [] _ 3)) g_ba ne_ca_ba hq0 hq1 hq2
  · exact rm_cp2_4 l Z a0 hw ws ca ba kc c0 c1 c2 c3 kb h0 n0 Z0 H0 (H1.pad (pad_rep [] _ 4)) g_ba ne_ca_ba hq0 hq1 hq2 hq3
  · exact rm_cp2_5 l Z a0 hw ws ca ba kc c0 c1 c2 c3 c4 kb h0 n0 Z0 H0 (H1.pad (pad_rep [] _ 5)) g_ba ne_ca_ba hq0 hq1 hq2 hq3 hq4
def Q_cp1 (Z : State) (ca : Addr) (n : Int32) (kc : ClassId) (cl : List Value) (bs : List Value) (h0 : Heap) (n0 : Nat) (v : Option Value) (h : Heap) (L : List Loc) : Prop := ∃ fr0 : Addr, ∃ fk0 : ClassId, v = some (.ref fr0) ∧ Fr n0 L ∧ Keep h0 h [] ∧ h0.size ≤ fr0 ∧ Arv Z h fr0 fk0 .byte n bs (.int 0)
theorem d6_0 : decode jdk_52_method_16_code 0 = .ok (.iload_n 2, 1) := by decide +kernel
theorem d6_1 : decode jdk_52_method_16_code 1 = .ok (.newarray .byte, 2) := by decide +kernel
theorem d6_3 : decode jdk_52_method_16_code 3 = .ok (.astore_n 3, 1) := by decide +kernel
theorem d6_4 : decode jdk_52_method_16_code 4 = .ok (.aload_n 0, 1) := by decide +kernel
theorem d6_5 : decode jdk_52_method_16_code 5 = .ok (.iload_n 1, 1) := by decide +kernel
theorem d6_6 : decode jdk_52_method_16_code 6 = .ok (.aload_n 3, 1) := by decide +kernel
theorem d6_7 : decode jdk_52_method_16_code 7 = .ok (.iconst 0, 1) := by decide +kernel
theorem d6_8 : decode jdk_52_method_16_code 8 = .ok (.iload_n 2, 1) := by decide +kernel
theorem d6_9 : decode jdk_52_method_16_code 9 = .ok (.invokestatic 115, 3) := by decide +kernel
theorem d6_12 : decode jdk_52_method_16_code 12 = .ok (.istore 4, 2) := by decide +kernel
theorem d6_14 : decode jdk_52_method_16_code 14 = .ok (.iload 4, 2) := by decide +kernel
theorem d6_16 : decode jdk_52_method_16_code 16 = .ok (.iload_n 2, 1) := by decide +kernel
theorem d6_17 : decode jdk_52_method_16_code 17 = .ok (.if_icmp .eq 40, 3) := by decide +kernel
theorem d6_57 : decode jdk_52_method_16_code 57 = .ok (.aload_n 3, 1) := by decide +kernel
theorem d6_58 : decode jdk_52_method_16_code 58 = .ok (.areturn, 1) := by decide +kernel
theorem pd_18 : parseMethodDescriptor "([CI[BII)I" = some ⟨[(.array .char), .int, (.array .byte), .int, .int], some .int⟩ := by decide +kernel
theorem pn6 : plainName "java/lang/StringUTF16" = true := by first | (simp [plainName, overriddenIn]; done) | decide +kernel
theorem ef6_RII (m : MethodId) (x0 : Addr) (x1 : Int32) (x2 : Int32) : entryFrame m #[(.ref x0), (.int x1), (.int x2)] 6 = mkF m 0 #[.val (.ref x0), .val (.int x1), .val (.int x2), .unset, .unset, .unset] [] := by first | (simp [entryFrame, mkF, argsToLocals, Value.category]; done) | rfl
set_option maxRecDepth 65536 in
set_option maxHeartbeats 40000000 in
theorem rm_cp1 (l : Launch) (Z : State) (a0 : Array Value) (hw : ∀ d ∈ tables_1, d.before a0 Z = true) (ws : List Jvm.Cond) (ca : Addr) (n : Int32) (kc : ClassId) (cl : List Value) (bs : List Value) (h0 : Heap) (n0 : Nat) (Z0 : n0 ≤ h0.size) (H0 : Arv Z h0 ca kc .char n cl (.int 0)) (hcp : own_CP n cl bs) :
    Met l Z Y23 jdk_52_method_16_code 6 (some (.array .byte)) ws ({ frames := 1, cells := 1, slots := 65, locals := 18 } : Room) #[(.ref ca), (.int 0), (.int n)] h0 (Q_cp1 Z ca n kc cl bs h0 n0) := by
  refine own_body (plainFor_of_name pn6) ?_
  intro p e s m below meth c s₁ hx hby hret hlk hml hZ hown hnm X0 e0
  have N0 := Fr.nil n0
  refine Wp.back (U' := (s₁.setTop (mkF m 0 #[.val (.ref ca), .val (.int 0), .val (.int n), .unset, .unset, .unset] []))) (fun t k => castTop (ef6_RII m ca (0 : Int32) n) k) ?_
  refine Wp.back (U' := (s₁.setTop (mkF m 1 #[.val (.ref ca), .val (.int 0), .val (.int n), .unset, .unset, .unset] [(.int n)]))) (fun t k => XS.iloadN X0.here hx rfl (hb hby d6_0) rfl k) ?_
  obtain ⟨T1, h1, k1, X1, e1, E1, A1, st1⟩ := newP X0 hx hZ (ow hw 27 rfl) e0 (g := (mkF m 1 #[.val (.ref ca), .val (.int 0), .val (.int n), .unset, .unset, .unset] [(.int n)])) rfl (hb hby d6_1) rfl (own_cp0 hcp).1 (cap := 65) (own_cp0 hcp).2.2 (by decide) (by decide) (by decide)
  obtain ⟨b1, g1⟩ : ∃ z, z = h0.size := ⟨_, rfl⟩
  rw [← g1] at A1 st1
  have ne_ca_b1 : ca ≠ b1 := Nat.ne_of_lt (Nat.lt_of_lt_of_le H0.lt (Nat.le_of_eq g1.symm))
  have g_b1 : n0 ≤ b1 := Nat.le_trans Z0 (Nat.le_of_eq g1.symm)
  have sz_b1 : h0.size ≤ b1 := Nat.le_trans (Keep.refl h0 []).1 (Nat.le_of_eq g1.symm)
  have f2_0 := Nat.le_trans Z0 E1.1
  have f2_1 := H0.ext E1
  have f2_2 := (Keep.refl h0 []).ext E1
  have V1 : Arv Z h1 b1 k1 .byte n [] (.int 0) := Arv.new A1 (own_cp0 hcp).1
  refine Wp.back (U' := (T1.setTop (mkF m 3 #[.val (.ref ca), .val (.int 0), .val (.int n), .unset, .unset, .unset] [(.ref b1)]))) st1 ?_
  refine Wp.back (U' := (T1.setTop (mkF m 9 #[.val (.ref ca), .val (.int 0), .val (.int n), .val (.ref b1), .unset, .unset] [(.int n), (.int 0), (.ref b1), (.int 0), (.ref ca)]))) (fun t k => XS.astoreN X1.here hx rfl (hb hby d6_3) rfl rfl (l' := #[.val (.ref ca), .val (.int 0), .val (.int n), .val (.ref b1), .unset, .unset]) rfl (XS.aloadN X1.here hx rfl (hb hby d6_4) rfl rfl (XS.iloadN X1.here hx rfl (hb hby d6_5) rfl (XS.aloadN X1.here hx rfl (hb hby d6_6) rfl rfl (XT.iconstV X1.here hx rfl 0 (hb hby d6_7) (by decide) (XS.iloadN X1.here hx rfl (hb hby d6_8) rfl k)))))) ?_
  obtain ⟨_, _, ⟨T3, L3, k3, n3⟩, -, X3, ⟨Lc3, hQ3, l3, y3, z3⟩, st3⟩ := Jvm.LawKit.callS X1 hx (y := Y22) hown (mvT hZ (ow hw 28 rfl)) (mvT hZ (ow hw 29 rfl)) (mvT hZ (ow hw 25 rfl)) (mvT hZ (ow hw 30 rfl)) (by decide) (backOf (W := 0) (rm_cp2g l Z a0 hw [] ca b1 kc n cl bs k1 h1 n0 f2_0 f2_1 V1 g_b1 ne_ca_b1 hcp) hZ (ow hw 30 rfl) (ow hw 25 rfl) (by decide) (by decide)) (g := (mkF m 9 #[.val (.ref ca), .val (.int 0), .val (.int n), .val (.ref b1), .unset, .unset] [(.int n), (.int 0), (.ref b1), (.int 0), (.ref ca)])) rfl (by rw [hml]; rfl) (argsL := [(.ref ca), (.int 0), (.ref b1), (.int 0), (.int n)]) (rest := []) (lenOf pd_18 rfl) rfl (Nat.le_of_eq rfl) (hb hby d6_9) (fun _ _ => ⟨rfl, e1, (by decide : 1 + 0 ≤ _), (by decide : 65 + 0 ≤ _)⟩)
  dsimp only [Pt.U, Pt.locs, Pt.cells, Pt.slots] at X3 l3 y3 z3 st3 hQ3
  subst l3 y3 z3
  obtain ⟨rfl, N3q, K3, o3_0⟩ := hQ3
  have f4_0 := Nat.le_trans f2_0 K3.1
  have f4_1 := f2_1.keep K3 (ninS ne_ca_b1 nin0)
  have f4_2 := f2_2.trans K3 (allS (Or.inr sz_b1) all0)
  have N3 := Fr.app N0 N3q
  refine Wp.back (U' := (T3.setTop (mkF m 12 #[.val (.ref ca), .val (.int 0), .val (.int n), .val (.ref b1), .unset, .unset] [(.int n)]))) st3 ?_
  refine Wp.back (U' := (T3.setTop (mkF m 58 #[.val (.ref ca), .val (.int 0), .val (.int n), .val (.ref b1), .val (.int n), .unset] [(.ref b1)]))) (fun t k => XS.istore X3.here hx rfl (hb hby d6_12) rfl (l' := #[.val (.ref ca), .val (.int 0), .val (.int n), .val (.ref b1), .val (.int n), .unset]) rfl (XS.iload X3.here hx rfl (hb hby d6_14) rfl (XS.iloadN X3.here hx rfl (hb hby d6_16) rfl (XS.icmpYes X3.here hx rfl (pc0 := 17) (pc' := 57) rfl (hb hby d6_17) rfl (teq (rfl : n = n)).1 (by decide) (by decide) (XS.aloadN X3.here hx rfl (hb hby d6_57) rfl rfl k))))) ?_
  obtain ⟨fs, hr, hrun, hended, hW, hsame⟩ := X3.leave (v := (some (.ref b1))) (fun h => by rw [hret] at h; cases h)
  refine Wp.done (retOut X3 hx hret rfl (Or.inr (Or.inr (Or.inr (Or.inr ⟨rfl, rfl, rfl⟩)))) (hb hby d6_58) hr) hrun hended ⟨_, _, rfl, ?_, ⟨_, rfl⟩, hW, hsame.mono (by decide) (by decide)⟩
  show Q_cp1 Z ca n kc cl bs h0 n0 _ T3.heap _
  exact ⟨b1, k1, rfl, N3, f4_2, sz_b1, o3_0⟩
def Q_cf (Z : State) (ba : Addr) (n : Int32) (kb : ClassId) (vs : List Value) (dv : Value) (h0 : Heap) (n0 : Nat) (v : Option Value) (h : Heap) (L : List Loc) : Prop := v = some (.int 0) ∧ Fr n0 L ∧ Keep h0 h []
theorem d8_0 : decode jdk_52_method_15_code 0 = .ok (.iload_n 1, 1) := by decide +kernel
theorem d8_1 : decode jdk_52_method_15_code 1 = .ok (.aload_n 0, 1) := by decide +kernel
theorem d8_2 : decode jdk_52_method_15_code 2 = .ok (.arraylength, 1) := by decide +kernel
theorem d8_3 : decode jdk_52_method_15_code 3 = .ok (.isub, 1) := by decide +kernel
theorem d8_4 : decode jdk_52_method_15_code 4 = .ok (.bipush 31, 2) := by decide +kernel
theorem d8_6 : decode jdk_52_method_15_code 6 = .ok (.iushr, 1) := by decide +kernel
theorem d8_7 : decode jdk_52_method_15_code 7 = .ok (.i2b, 1) := by decide +kernel
theorem d8_8 : decode jdk_52_method_15_code 8 = .ok (.ireturn, 1) := by decide +kernel
theorem pn8 : plainName "java/lang/StringUTF16" = true := by first | (simp [plainName, overriddenIn]; done) | decide +kernel
theorem ef8_RI (m : MethodId) (x0 : Addr) (x1 : Int32) : entryFrame m #[(.ref x0), (.int x1)] 2 = mkF m 0 #[.val (.ref x0), .val (.int x1)] [] := by first | (simp [entryFrame, mkF, argsToLocals, Value.category]; done) | rfl
set_option maxRecDepth 65536 in
set_option maxHeartbeats 40000000 in
theorem rm_cf (l : Launch) (Z : State) (a0 : Array Value) (hw : ∀ d ∈ tables_1, d.before a0 Z = true) (ws : List Jvm.Cond) (ba : Addr) (n : Int32) (kb : ClassId) (vs : List Value) (dv : Value) (h0 : Heap) (n0 : Nat) (Z0 : n0 ≤ h0.size) (H0 : Arv Z h0 ba kb .byte n vs dv) :
    Met l Z Y24 jdk_52_method_15_code 2 (some .byte) ws ({ frames := 0, cells := 0, slots := 0, locals := 0 } : Room) #[(.ref ba), (.int n)] h0 (Q_cf Z ba n kb vs dv h0 n0) := by
  refine own_body (plainFor_of_name pn8) ?_
  intro p e s m below meth c s₁ hx hby hret hlk hml hZ hown hnm X0 e0
  have N0 := Fr.nil n0
  refine Wp.back (U' := (s₁.setTop (mkF m 0 #[.val (.ref ba), .val (.int n)] []))) (fun t k => castTop (ef8_RI m ba n) k) ?_
  refine Wp.back (U' := (s₁.setTop (mkF m 2 #[.val (.ref ba), .val (.int n)] [(.ref ba), (.int n)]))) (fun t k => XS.iloadN X0.here hx rfl (hb hby d8_0) rfl (XS.aloadN X0.here hx rfl (hb hby d8_1) rfl rfl k)) ?_
  have vq1 := H0
  obtain ⟨cl1, Ar1, -, qs1, qn1, -, -⟩ := vq1
  refine Wp.back (U' := (s₁.setTop (mkF m 3 #[.val (.ref ba), .val (.int n)] [(.int n), (.int n)]))) (fun t k => X0.arraylength hx (by rw [e0]; exact Ar1.1) (State.isArrayOf_alike hZ.alike Ar1.2.1) (g := (mkF m 2 #[.val (.ref ba), .val (.int n)] [(.ref ba), (.int n)])) rfl rfl (hb hby d8_2) t (by rw [len_of qs1 qn1]; exact k)) ?_
  refine Wp.back (U' := (s₁.setTop (mkF m 4 #[.val (.ref ba), .val (.int n)] [(.int (n - n))]))) (fun t k => XS.isub X0.here hx rfl (hb hby d8_3) rfl k) ?_
  rw [own_nn n]
  refine Wp.back (U' := (s₁.setTop (mkF m 8 #[.val (.ref ba), .val (.int n)] [(.int 0)]))) (fun t k => XT.bipushV X0.here hx rfl 31 (hb hby d8_4) (by decide) (XS.iushr X0.here hx rfl (hb hby d8_6) rfl (XS.i2b X0.here hx rfl (hb hby d8_7) rfl k))) ?_
  obtain ⟨fs, hr, hrun, hended, hW, hsame⟩ := X0.leave (v := (some (.int 0))) (fun h => by rw [hret] at h; cases h)
  refine Wp.done (retN X0 hx (t := .byte) hret (by simp) (hb hby d8_8) hr) hrun hended ⟨_, _, rfl, ?_, ⟨_, rfl⟩, hW, hsame.mono (by decide) (by decide)⟩
  show Q_cf Z ba n kb vs dv h0 n0 _ s₁.heap _
  rw [e0]
  exact ⟨rfl, N0, (Keep.refl h0 [])⟩
def Q_si4 (Z : State) (ar : Addr) (ca : Addr) (n : Int32) (kc : ClassId) (cl : List Value) (bs : List Value) (cs : Int32) (h0 : Heap) (n0 : Nat) (v : Option Value) (h : Heap) (L : List Loc) : Prop := ∃ fr0 : Addr, ∃ fk0 : ClassId, v = none ∧ Fr n0 L ∧ Keep h0 h [ar] ∧ h0.size ≤ fr0 ∧ Exa Z h ar "java/lang/String" ∧ Fld Z h ar "java/lang/String" "value" "[B" (.ref fr0) ∧ Fld Z h ar "java/lang/String" "coder" "B" (.int 0) ∧ Arv Z h fr0 fk0 .byte n bs (.int 0)
theorem d4_0 : decode jdk_42_method_149_code 0 = .ok (.aload_n 0, 1) := by decide +kernel
theorem d4_1 : decode jdk_42_method_149_code 1 = .ok (.invokespecial 1, 3) := by decide +kernel
theorem d4_4 : decode jdk_42_method_149_code 4 = .ok (.iload_n 3, 1) := by decide +kernel
theorem d4_5 : decode jdk_42_method_149_code 5 = .ok (.ifCond .ne 22, 3) := by decide +kernel
theorem d4_27 : decode jdk_42_method_149_code 27 = .ok (.getstatic 38, 3) := by decide +kernel
theorem d4_30 : decode jdk_42_method_149_code 30 = .ok (.ifCond .eq 28, 3) := by decide +kernel
theorem d4_33 : decode jdk_42_method_149_code 33 = .ok (.aload_n 1, 1) := by decide +kernel
theorem d4_34 : decode jdk_42_method_149_code 34 = .ok (.iload_n 2, 1) := by decide +kernel
theorem d4_35 : decode jdk_42_method_149_code 35 = .ok (.iload_n 3, 1) := by decide +kernel
theorem d4_36 : decode jdk_42_method_149_code 36 = .ok (.invokestatic 177, 3) := by decide +kernel
theorem d4_39 : decode jdk_42_method_149_code 39 = .ok (.astore 5, 2) := by decide +kernel
theorem d4_41 : decode jdk_42_method_149_code 41 = .ok (.aload_n 0, 1) := by decide +kernel
theorem d4_42 : decode jdk_42_method_149_code 42 = .ok (.aload 5, 2) := by decide +kernel
theorem d4_44 : decode jdk_42_method_149_code 44 = .ok (.iload_n 3, 1) := by decide +kernel
theorem d4_45 : decode jdk_42_method_149_code 45 = .ok (.invokestatic 47, 3) := by decide +kernel
theorem d4_48 : decode jdk_42_method_149_code 48 = .ok (.putfield 15, 3) := by decide +kernel
theorem d4_51 : decode jdk_42_method_149_code 51 = .ok (.aload_n 0, 1) := by decide +kernel
theorem d4_52 : decode jdk_42_method_149_code 52 = .ok (.aload 5, 2) := by decide +kernel
theorem d4_54 : decode jdk_42_method_149_code 54 = .ok (.putfield 9, 3) := by decide +kernel
theorem d4_57 : decode jdk_42_method_149_code 57 = .ok (.return_, 1) := by decide +kernel
theorem pd_19 : parseMethodDescriptor "([CII)[B" = some ⟨[(.array .char), .int, .int], some (.array .byte)⟩ := by decide +kernel
theorem pd_20 : parseMethodDescriptor "([BI)B" = some ⟨[(.array .byte), .int], some .byte⟩ := by decide +kernel
theorem pn4 : plainName "java/lang/String" = true := by first | (simp [plainName, overriddenIn]; done) | decide +kernel
theorem ef4_RRIIn (m : MethodId) (x0 : Addr) (x1 : Addr) (x2 : Int32) (x3 : Int32) : entryFrame m #[(.ref x0), (.ref x1), (.int x2), (.int x3), .null] 6 = mkF m 0 #[.val (.ref x0), .val (.ref x1), .val (.int x2), .val (.int x3), .val .null, .unset] [] := by first | (simp [entryFrame, mkF, argsToLocals, Value.category]; done) | rfl
set_option maxRecDepth 65536 in
set_option maxHeartbeats 40000000 in
theorem rm_si4 (l : Launch) (Z : State) (a0 : Array Value) (hw : ∀ d ∈ tables_1, d.before a0 Z = true) (ws : List Jvm.Cond) (ar : Addr) (ca : Addr) (n : Int32) (kc : ClassId) (cl : List Value) (bs : List Value) (cs : Int32) (h0 : Heap) (n0 : Nat) (Z0 : n0 ≤ h0.size) (H0 : Exa Z h0 ar "java/lang/String") (H1 : Fld Z h0 ar "java/lang/String" "value" "[B" .null) (H2 : Fld Z h0 ar "java/lang/String" "coder" "B" (.int 0)) (H3 : Arv Z h0 ca kc .char n cl (.int 0)) (H4 : Sta Z h0 "java/lang/String" "COMPACT_STRINGS" "Z" (.int cs)) (g_ar : n0 ≤ ar) (ne_ca_ar : ca ≠ ar) (hcp : own_CP n cl bs) (hcs : ¬ cs = (0 : Int32)) :
    Met l Z Y25 jdk_42_method_149_code 6 none ws ({ frames := 2, cells := 1, slots := 65, locals := 35 } : Room) #[(.ref ar), (.ref ca), (.int 0), (.int n), .null] h0 (Q_si4 Z ar ca n kc cl bs cs h0 n0) := by
  refine own_body (plainFor_of_name pn4) ?_
  intro p e s m below meth c s₁ hx hby hret hlk hml hZ hown hnm X0 e0
  have N0 := Fr.nil n0
  refine Wp.back (U' := (s₁.setTop (mkF m 0 #[.val (.ref ar), .val (.ref ca), .val (.int 0), .val (.int n), .val .null, .unset] []))) (fun t k => castTop (ef4_RRIIn m ar ca (0 : Int32) n) k) ?_
  refine Wp.back (U' := (s₁.setTop (mkF m 1 #[.val (.ref ar), .val (.ref ca), .val (.int 0), .val (.int n), .val .null, .unset] [(.ref ar)]))) (fun t k => XS.aloadN X0.here hx rfl (hb hby d4_0) rfl rfl k) ?_
  obtain ⟨T1, X1, e1, st1⟩ := initO X0 hx hZ hown (ow hw 19 rfl) (ow hw 20 rfl) (ow hw 21 rfl) e0 (g := (mkF m 1 #[.val (.ref ar), .val (.ref ca), .val (.int 0), .val (.int n), .val .null, .unset] [(.ref ar)])) rfl (by rw [hml]; rfl) rfl (hb hby d4_1) (by decide) (W := 0) (Nat.le_of_eq rfl) (by decide)
  refine Wp.back (U' := (T1.setTop (mkF m 4 #[.val (.ref ar), .val (.ref ca), .val (.int 0), .val (.int n), .val .null, .unset] []))) st1 ?_
  refine Wp.back (U' := (T1.setTop (mkF m 27 #[.val (.ref ar), .val (.ref ca), .val (.int 0), .val (.int n), .val .null, .unset] []))) (fun t k => XS.iloadN X1.here hx rfl (hb hby d4_4) rfl (XS.ifYes X1.here hx rfl (pc0 := 5) (pc' := 27) rfl (hb hby d4_5) rfl ((if0 _ _).trans (feq (own_cp0 hcp).2.1).2) (by decide) (by decide) k)) ?_
  obtain ⟨T2, X2, e2, st2⟩ := getS2 X1 hx hZ hown (host := "") (Or.inl (ow hw 22 rfl)) Via.refl e1 H4 (g := (mkF m 27 #[.val (.ref ar), .val (.ref ca), .val (.int 0), .val (.int n), .val .null, .unset] [])) rfl (hb hby d4_27)
  refine Wp.back (U' := (T2.setTop (mkF m 30 #[.val (.ref ar), .val (.ref ca), .val (.int 0), .val (.int n), .val .null, .unset] [(.int cs)]))) st2 ?_
  refine Wp.back (U' := (T2.setTop (mkF m 36 #[.val (.ref ar), .val (.ref ca), .val (.int 0), .val (.int n), .val .null, .unset] [(.int n), (.int 0), (.ref ca)]))) (fun t k => XS.ifNo X2.here hx rfl (hb hby d4_30) rfl ((if0 _ _).trans (feq hcs).1) (XS.aloadN X2.here hx rfl (hb hby d4_33) rfl rfl (XS.iloadN X2.here hx rfl (hb hby d4_34) rfl (XS.iloadN X2.here hx rfl (hb hby d4_35) rfl k)))) ?_
  obtain ⟨_, _, ⟨T3, L3, k3, n3⟩, -, X3, ⟨Lc3, hQ3, l3, y3, z3⟩, st3⟩ := Jvm.LawKit.callS X2 hx (y := Y23) hown (mvT hZ (ow hw 23 rfl)) (mvT hZ (ow hw 24 rfl)) (mvT hZ (ow hw 25 rfl)) (mvT hZ (ow hw 26 rfl)) (by decide) (backOf (W := 0) (rm_cp1 l Z a0 hw [] ca n kc cl bs h0 n0 Z0 H3 hcp) hZ (ow hw 26 rfl) (ow hw 25 rfl) (by decide) (by decide)) (g := (mkF m 36 #[.val (.ref ar), .val (.ref ca), .val (.int 0), .val (.int n), .val .null, .unset] [(.int n), (.int 0), (.ref ca)])) rfl (by rw [hml]; rfl) (argsL := [(.ref ca), (.int 0), (.int n)]) (rest := []) (lenOf pd_19 rfl) rfl (Nat.le_of_eq rfl) (hb hby d4_36) (fun _ _ => ⟨rfl, e2, (by decide : 0 + 1 ≤ _), (by decide : 0 + 65 ≤ _)⟩)
  dsimp only [Pt.U, Pt.locs, Pt.cells, Pt.slots] at X3 l3 y3 z3 st3 hQ3
  subst l3 y3 z3
  obtain ⟨b3_0, k3_0, rfl, N3q, K3, sf3_0, o3_0⟩ := hQ3
  have ne_ar_b3_0 : ar ≠ b3_0 := Nat.ne_of_lt (Nat.lt_of_lt_of_le H0.lt sf3_0)
  have ne_ca_b3_0 : ca ≠ b3_0 := Nat.ne_of_lt (Nat.lt_of_lt_of_le H3.lt sf3_0)
  have g_b3_0 : n0 ≤ b3_0 := Nat.le_trans Z0 sf3_0
  have sz_b3_0 : h0.size ≤ b3_0 := Nat.le_trans (Keep.refl h0 [ar]).1 sf3_0
  have f4_0 := Nat.le_trans Z0 K3.1
  have f4_1 := H0.keep K3
  have f4_2 := H1.keep K3 nin0
  have f4_3 := H2.keep K3 nin0
  have f4_4 := H3.keep K3 nin0
  have f4_5 := Sta_keep0 H4 K3
  have f4_6 := (Keep.refl h0 [ar]).trans K3 all0
  have N3 := Fr.app N0 N3q
  refine Wp.back (U' := (T3.setTop (mkF m 39 #[.val (.ref ar), .val (.ref ca), .val (.int 0), .val (.int n), .val .null, .unset] [(.ref b3_0)]))) st3 ?_
  refine Wp.back (U' := (T3.setTop (mkF m 45 #[.val (.ref ar), .val (.ref ca), .val (.int 0), .val (.int n), .val .null, .val (.ref b3_0)] [(.int n), (.ref b3_0), (.ref ar)]))) (fun t k => XS.astore X3.here hx rfl (hb hby d4_39) rfl rfl (l' := #[.val (.ref ar), .val (.ref ca), .val (.int 0), .val (.int n), .val .null, .val (.ref b3_0)]) rfl (XS.aloadN X3.here hx rfl (hb hby d4_41) rfl rfl (XS.aload X3.here hx rfl (hb hby d4_42) rfl rfl (XS.iloadN X3.here hx rfl (hb hby d4_44) rfl k)))) ?_
  obtain ⟨_, _, ⟨T5, L5, k5, n5⟩, -, X5, ⟨Lc5, hQ5, l5, y5, z5⟩, st5⟩ := Jvm.LawKit.callS X3 hx (y := Y24) hown (mvT hZ (ow hw 31 rfl)) (mvT hZ (ow hw 32 rfl)) (mvT hZ (ow hw 25 rfl)) (mvT hZ (ow hw 33 rfl)) (by decide) (backOf (W := 1) (rm_cf l Z a0 hw [] b3_0 n k3_0 bs (.int 0) T3.heap n0 f4_0 o3_0) hZ (ow hw 33 rfl) (ow hw 25 rfl) (by decide) (by decide)) (g := (mkF m 45 #[.val (.ref ar), .val (.ref ca), .val (.int 0), .val (.int n), .val .null, .val (.ref b3_0)] [(.int n), (.ref b3_0), (.ref ar)])) rfl (by rw [hml]; rfl) (argsL := [(.ref b3_0), (.int n)]) (rest := [(.ref ar)]) (lenOf pd_20 rfl) rfl (Nat.le_of_eq rfl) (hb hby d4_45) (fun _ _ => ⟨rfl, rfl, (by decide : 1 + 0 ≤ _), (by decide : 65 + 0 ≤ _)⟩)
  dsimp only [Pt.U, Pt.locs, Pt.cells, Pt.slots] at X5 l5 y5 z5 st5 hQ5
  subst l5 y5 z5
  obtain ⟨rfl, N5q, K5⟩ := hQ5
  have f6_0 := Nat.le_trans f4_0 K5.1
  have f6_1 := f4_1.keep K5
  have f6_2 := f4_2.keep K5 nin0
  have f6_3 := f4_3.keep K5 nin0
  have f6_4 := f4_4.keep K5 nin0
  have f6_5 := Sta_keep0 f4_5 K5
  have f6_6 := f4_6.trans K5 all0
  have f6_7 := o3_0.keep K5 nin0
  have N5 := Fr.app N3 N5q
  refine Wp.back (U' := (T5.setTop (mkF m 48 #[.val (.ref ar), .val (.ref ca), .val (.int 0), .val (.int n), .val .null, .val (.ref b3_0)] [(.int 0), (.ref ar)]))) st5 ?_
  obtain ⟨T7, h7, X7, e7, W7, st7⟩ := putFN X5 hx hZ hown (ow hw 34 rfl) Via.refl rfl f6_3 f6_1 (Or.inr ⟨(ow hw 35 rfl), rfl, hnm⟩) (ow hw 10 rfl) (ty := .byte) (v' := .int (0 : Int32)) (by decide) rfl rfl (g := (mkF m 48 #[.val (.ref ar), .val (.ref ca), .val (.int 0), .val (.int n), .val .null, .val (.ref b3_0)] [(.int 0), (.ref ar)])) rfl rfl (hb hby d4_48)
  have Fw7 := f6_3.same W7
  have f8_0 := Nat.le_trans f6_0 (Keep.of_wr W7).1
  have f8_1 := f6_1.wr W7
  have f8_2 := f6_2.other W7 (Or.inr (slot_ne (Or.inr (ow hw 37 rfl)) (Or.inr (ow hw 35 rfl)) (by decide) (t := (.array .byte)) (t' := .byte) (by decide) (by decide)))
  have f8_3 := f6_4.other W7 ne_ca_ar
  have f8_4 := f6_5.wr W7
  have f8_5 := f6_6.wr W7 (Or.inl (List.mem_of_getElem? (i := 0) rfl))
  have f8_6 := f6_7.other W7 (Ne.symm ne_ar_b3_0)
  have N7 := Fr.snoc X7 N5 g_ar
  refine Wp.back (U' := (T7.setTop (mkF m 51 #[.val (.ref ar), .val (.ref ca), .val (.int 0), .val (.int n), .val .null, .val (.ref b3_0)] []))) st7 ?_
  refine Wp.back (U' := (T7.setTop (mkF m 54 #[.val (.ref ar), .val (.ref ca), .val (.int 0), .val (.int n), .val .null, .val (.ref b3_0)] [(.ref b3_0), (.ref ar)]))) (fun t k => XS.aloadN X7.here hx rfl (hb hby d4_51) rfl rfl (XS.aload X7.here hx rfl (hb hby d4_52) rfl rfl k)) ?_
  obtain ⟨T9, h9, X9, e9, W9, st9⟩ := putF X7 hx hZ hown (host := "") (Or.inl (ow hw 36 rfl)) Via.refl e7 f8_2 f8_1 (Or.inr ⟨(ow hw 37 rfl), rfl, hnm⟩) (ow hw 10 rfl) (ty := (.array .byte)) (by decide) rfl rfl (g := (mkF m 54 #[.val (.ref ar), .val (.ref ca), .val (.int 0), .val (.int n), .val .null, .val (.ref b3_0)] [(.ref b3_0), (.ref ar)])) rfl rfl (hb hby d4_54)
  have Fw9 := f8_2.same W9
  have f10_0 := Nat.le_trans f8_0 (Keep.of_wr W9).1
  have f10_1 := f8_1.wr W9
  have f10_2 := f8_3.other W9 ne_ca_ar
  have f10_3 := f8_4.wr W9
  have f10_4 := f8_5.wr W9 (Or.inl (List.mem_of_getElem? (i := 0) rfl))
  have f10_5 := f8_6.other W9 (Ne.symm ne_ar_b3_0)
  have f10_6 := Fw7.other W9 (Or.inr (slot_ne (Or.inr (ow hw 35 rfl)) (Or.inr (ow hw 37 rfl)) (by decide) (t := .byte) (t' := (.array .byte)) (by decide) (by decide)))
  have N9 := Fr.snoc X9 N7 g_ar
  refine Wp.back (U' := (T9.setTop (mkF m 57 #[.val (.ref ar), .val (.ref ca), .val (.int 0), .val (.int n), .val .null, .val (.ref b3_0)] []))) st9 ?_
  obtain ⟨fs, hr, hrun, hended, hW, hsame⟩ := X9.leave (v := none) (fun _ => rfl)
  refine Wp.done (X9.returnOut hx hret (hb hby d4_57) hr) hrun hended ⟨_, _, rfl, ?_, ⟨_, rfl⟩, hW, hsame.mono (by decide) (by decide)⟩
  show Q_si4 Z ar ca n kc cl bs cs h0 n0 _ T9.heap _
  rw [e9]
  exact ⟨b3_0, k3_0, rfl, N9, f10_4, sz_b3_0, f10_1, Fw9, f10_6, f10_5⟩
def Q_si1 (Z : State) (ar : Addr) (ca : Addr) (n : Int32) (kc : ClassId) (cl : List Value) (bs : List Value) (cs : Int32) (h0 : Heap) (n0 : Nat) (v : Option Value) (h : Heap) (L : List Loc) : Prop := ∃ fr0 : Addr, ∃ fk0 : ClassId, v = none ∧ Fr n0 L ∧ Keep h0 h [ar] ∧ h0.size ≤ fr0 ∧ Exa Z h ar "java/lang/String" ∧ Fld Z h ar "java/lang/String" "value" "[B" (.ref fr0) ∧ Fld Z h ar "java/lang/String" "coder" "B" (.int 0) ∧ Arv Z h fr0 fk0 .byte n bs (.int 0)
theorem d3_0 : decode jdk_42_method_3_code 0 = .ok (.aload_n 0, 1) := by decide +kernel
theorem d3_1 : decode jdk_42_method_3_code 1 = .ok (.aload_n 1, 1) := by decide +kernel
theorem d3_2 : decode jdk_42_method_3_code 2 = .ok (.iconst 0, 1) := by decide +kernel
theorem d3_3 : decode jdk_42_method_3_code 3 = .ok (.aload_n 1, 1) := by decide +kernel
theorem d3_4 : decode jdk_42_method_3_code 4 = .ok (.arraylength, 1) := by decide +kernel
theorem d3_5 : decode jdk_42_method_3_code 5 = .ok (.aconst_null, 1) := by decide +kernel
theorem d3_6 : decode jdk_42_method_3_code 6 = .ok (.invokespecial 27, 3) := by decide +kernel
theorem d3_9 : decode jdk_42_method_3_code 9 = .ok (.return_, 1) := by decide +kernel
theorem pd_21 : parseMethodDescriptor "([CIILjava/lang/Void;)V" = some ⟨[(.array .char), .int, .int, (.object "java/lang/Void")], none⟩ := by decide +kernel
theorem pn3 : plainName "java/lang/String" = true := by first | (simp [plainName, overriddenIn]; done) | decide +kernel
theorem ef3_RR (m : MethodId) (x0 : Addr) (x1 : Addr) : entryFrame m #[(.ref x0), (.ref x1)] 2 = mkF m 0 #[.val (.ref x0), .val (.ref x1)] [] := by first | (simp [entryFrame, mkF, argsToLocals, Value.category]; done) | rfl
set_option maxRecDepth 65536 in
set_option maxHeartbeats 40000000 in
theorem rm_si1 (l : Launch) (Z : State) (a0 : Array Value) (hw : ∀ d ∈ tables_1, d.before a0 Z = true) (ws : List Jvm.Cond) (ar : Addr) (ca : Addr) (n : Int32) (kc : ClassId) (cl : List Value) (bs : List Value) (cs : Int32) (h0 : Heap) (n0 : Nat) (Z0 : n0 ≤ h0.size) (H0 : Exa Z h0 ar "java/lang/String") (H1 : Fld Z h0 ar "java/lang/String" "value" "[B" .null) (H2 : Fld Z h0 ar "java/lang/String" "coder" "B" (.int 0)) (H3 : Arv Z h0 ca kc .char n cl (.int 0)) (H4 : Sta Z h0 "java/lang/String" "COMPACT_STRINGS" "Z" (.int cs)) (g_ar : n0 ≤ ar) (ne_ca_ar : ca ≠ ar) (hcp : own_CP n cl bs) (hcs : ¬ cs = (0 : Int32)) :
    Met l Z Y26 jdk_42_method_3_code 2 none ws ({ frames := 3, cells := 1, slots := 65, locals := 52 } : Room) #[(.ref ar), (.ref ca)] h0 (Q_si1 Z ar ca n kc cl bs cs h0 n0) := by
  refine own_body (plainFor_of_name pn3) ?_
  intro p e s m below meth c s₁ hx hby hret hlk hml hZ hown hnm X0 e0
  have N0 := Fr.nil n0
  refine Wp.back (U' := (s₁.setTop (mkF m 0 #[.val (.ref ar), .val (.ref ca)] []))) (fun t k => castTop (ef3_RR m ar ca) k) ?_
  refine Wp.back (U' := (s₁.setTop (mkF m 4 #[.val (.ref ar), .val (.ref ca)] [(.ref ca), (.int 0), (.ref ca), (.ref ar)]))) (fun t k => XS.aloadN X0.here hx rfl (hb hby d3_0) rfl rfl (XS.aloadN X0.here hx rfl (hb hby d3_1) rfl rfl (XT.iconstV X0.here hx rfl 0 (hb hby d3_2) (by decide) (XS.aloadN X0.here hx rfl (hb hby d3_3) rfl rfl k)))) ?_
  have vq1 := H3
  obtain ⟨cl1, Ar1, -, qs1, qn1, -, -⟩ := vq1
  refine Wp.back (U' := (s₁.setTop (mkF m 5 #[.val (.ref ar), .val (.ref ca)] [(.int n), (.int 0), (.ref ca), (.ref ar)]))) (fun t k => X0.arraylength hx (by rw [e0]; exact Ar1.1) (State.isArrayOf_alike hZ.alike Ar1.2.1) (g := (mkF m 4 #[.val (.ref ar), .val (.ref ca)] [(.ref ca), (.int 0), (.ref ca), (.ref ar)])) rfl rfl (hb hby d3_4) t (by rw [len_of qs1 qn1]; exact k)) ?_
  refine Wp.back (U' := (s₁.setTop (mkF m 6 #[.val (.ref ar), .val (.ref ca)] [.null, (.int n), (.int 0), (.ref ca), (.ref ar)]))) (fun t k => XS.aconstNull X0.here hx rfl (hb hby d3_5) k) ?_
  obtain ⟨_, _, ⟨T2, L2, k2, n2⟩, -, X2, ⟨Lc2, hQ2, l2, y2, z2⟩, st2⟩ := X0.specialBack hx (y := Y25) rfl hown (mvT hZ (ow hw 15 rfl)) (mvT hZ (ow hw 16 rfl)) (mvT hZ (ow hw 18 rfl)) (by decide) (backOf (W := 0) (rm_si4 l Z a0 hw [] ar ca n kc cl bs cs h0 n0 Z0 H0 H1 H2 H3 H4 g_ar ne_ca_ar hcp hcs) hZ (ow hw 18 rfl) (ow hw 11 rfl) (by decide) (by decide)) (g := (mkF m 6 #[.val (.ref ar), .val (.ref ca)] [.null, (.int n), (.int 0), (.ref ca), (.ref ar)])) rfl (by rw [hml]; rfl) (Steps.refl _) (a := ar) (argsL := [(.ref ca), (.int 0), (.int n), .null]) (rest := []) (lenOf pd_21 rfl) rfl (Nat.le_of_eq rfl) (hb hby d3_6) (fun _ _ => ⟨rfl, e0, (by decide : 0 + 1 ≤ _), (by decide : 0 + 65 ≤ _)⟩)
  dsimp only [Pt.U, Pt.locs, Pt.cells, Pt.slots] at X2 l2 y2 z2 st2 hQ2
  subst l2 y2 z2
  obtain ⟨b2_0, k2_0, rfl, N2q, K2, sf2_0, o2_0, o2_1, o2_2, o2_3⟩ := hQ2
  have ne_ar_b2_0 : ar ≠ b2_0 := Nat.ne_of_lt (Nat.lt_of_lt_of_le H0.lt sf2_0)
  have ne_ca_b2_0 : ca ≠ b2_0 := Nat.ne_of_lt (Nat.lt_of_lt_of_le H3.lt sf2_0)
  have g_b2_0 : n0 ≤ b2_0 := Nat.le_trans Z0 sf2_0
  have sz_b2_0 : h0.size ≤ b2_0 := Nat.le_trans (Keep.refl h0 [ar]).1 sf2_0
  have f3_0 := Nat.le_trans Z0 K2.1
  have f3_1 := H0.keep K2
  have f3_4 := H3.keep K2 (ninS ne_ca_ar nin0)
  have f3_5 := Sta_keep H4 K2 (allS (Exa_ns H0) all0)
  have f3_6 := (Keep.refl h0 [ar]).trans K2 (allS (Or.inl (List.mem_of_getElem? (i := 0) rfl)) all0)
  have N2 := Fr.app N0 N2q
  refine Wp.back (U' := (T2.setTop (mkF m 9 #[.val (.ref ar), .val (.ref ca)] []))) (fun t k => st2.trans k) ?_
  obtain ⟨fs, hr, hrun, hended, hW, hsame⟩ := X2.leave (v := none) (fun _ => rfl)
  refine Wp.done (X2.returnOut hx hret (hb hby d3_9) hr) hrun hended ⟨_, _, rfl, ?_, ⟨_, rfl⟩, hW, hsame.mono (by decide) (by decide)⟩
  show Q_si1 Z ar ca n kc cl bs cs h0 n0 _ T2.heap _
  exact ⟨b2_0, k2_0, rfl, N2, f3_6, sz_b2_0, o2_0, o2_1, o2_2, o2_3⟩
def Q_tk1 (Z : State) (ta : Addr) (kt : ClassId) (c0 : Int32) (c1 : Int32) (c2 : Int32) (c3 : Int32) (c4 : Int32) (cs : Int32) (h0 : Heap) (n0 : Nat) (v : Option Value) (h : Heap) (L : List Loc) : Prop := ∃ fr0 : Addr, ∃ fr1 : Addr, ∃ fk0 : ClassId, v = some (.ref fr0) ∧ Fr n0 L ∧ Keep h0 h [] ∧ h0.size ≤ fr0 ∧ h0.size ≤ fr1 ∧ Exa Z h fr0 "java/lang/String" ∧ Fld Z h fr0 "java/lang/String" "value" "[B" (.ref fr1) ∧ Fld Z h fr0 "java/lang/String" "coder" "B" (.int 0) ∧ Arv Z h fr1 fk0 .byte (1 : Int32) [(.int (nar .byte ((nar .char c0)).toInt8.toInt32))] (.int 0)
theorem d2_0 : decode method_4_code 0 = .ok (.iload_n 1, 1) := by decide +kernel
theorem d2_1 : decode method_4_code 1 = .ok (.iconst 1, 1) := by decide +kernel
theorem d2_2 : decode method_4_code 2 = .ok (.if_icmp .ne 20, 3) := by decide +kernel
theorem d2_5 : decode method_4_code 5 = .ok (.new 26, 3) := by decide +kernel
theorem d2_8 : decode method_4_code 8 = .ok (.dup, 1) := by decide +kernel
theorem d2_9 : decode method_4_code 9 = .ok (.iconst 1, 1) := by decide +kernel
theorem d2_10 : decode method_4_code 10 = .ok (.newarray .char, 2) := by decide +kernel
theorem d2_12 : decode method_4_code 12 = .ok (.dup, 1) := by decide +kernel
theorem d2_13 : decode method_4_code 13 = .ok (.iconst 0, 1) := by decide +kernel
theorem d2_14 : decode method_4_code 14 = .ok (.aload_n 0, 1) := by decide +kernel
theorem d2_15 : decode method_4_code 15 = .ok (.iconst 0, 1) := by decide +kernel
theorem d2_16 : decode method_4_code 16 = .ok (.caload, 1) := by decide +kernel
theorem d2_17 : decode method_4_code 17 = .ok (.castore, 1) := by decide +kernel
theorem d2_18 : decode method_4_code 18 = .ok (.invokespecial 32, 3) := by decide +kernel
theorem d2_21 : decode method_4_code 21 = .ok (.areturn, 1) := by decide +kernel
theorem pd_22 : parseMethodDescriptor "([C)V" = some ⟨[(.array .char)], none⟩ := by decide +kernel
theorem pn2 : plainName "com/example/surebit/surebit/input/HexNumberDigitsPinLaw" = true := by first | (simp [plainName, overriddenIn]; done) | decide +kernel
theorem ef2_RI (m : MethodId) (x0 : Addr) (x1 : Int32) : entryFrame m #[(.ref x0), (.int x1)] 2 = mkF m 0 #[.val (.ref x0), .val (.int x1)] [] := by first | (simp [entryFrame, mkF, argsToLocals, Value.category]; done) | rfl
set_option maxRecDepth 65536 in
set_option maxHeartbeats 40000000 in
theorem rm_tk1 (l : Launch) (Z : State) (a0 : Array Value) (hw : ∀ d ∈ tables_1, d.before a0 Z = true) (ws : List Jvm.Cond) (ta : Addr) (kt : ClassId) (c0 : Int32) (c1 : Int32) (c2 : Int32) (c3 : Int32) (c4 : Int32) (cs : Int32) (h0 : Heap) (n0 : Nat) (Z0 : n0 ≤ h0.size) (H0 : Arv Z h0 ta kt .char (5 : Int32) [(.int c0), (.int c1), (.int c2), (.int c3), (.int c4)] (.int 0)) (H1 : Sta Z h0 "java/lang/String" "COMPACT_STRINGS" "Z" (.int cs)) (hc0 : ¬ (255 : Int32) < (nar .char c0)) (hcs : ¬ cs = (0 : Int32)) :
    Met l Z Y27 method_4_code 2 (some (.object "java/lang/String")) ws ({ frames := 4, cells := 3, slots := 70, locals := 66 } : Room) #[(.ref ta), (.int 1)] h0 (Q_tk1 Z ta kt c0 c1 c2 c3 c4 cs h0 n0) := by
  refine own_body (plainFor_of_name pn2) ?_
  intro p e s m below meth c s₁ hx hby hret hlk hml hZ hown hnm X0 e0
  have N0 := Fr.nil n0
  refine Wp.back (U' := (s₁.setTop (mkF m 0 #[.val (.ref ta), .val (.int 1)] []))) (fun t k => castTop (ef2_RI m ta (1 : Int32)) k) ?_
  refine Wp.back (U' := (s₁.setTop (mkF m 5 #[.val (.ref ta), .val (.int 1)] []))) (fun t k => XS.iloadN X0.here hx rfl (hb hby d2_0) rfl (XT.iconstV X0.here hx rfl 1 (hb hby d2_1) (by decide) (XS.icmpNo X0.here hx rfl (hb hby d2_2) rfl (teq (by decide)).2 k))) ?_
  obtain ⟨T1, h1, X1, e1, E1, A1, D1, -, st1⟩ := newO X0 hx hZ hown (ow hw 9 rfl) (ow hw 10 rfl) (ow hw 11 rfl) e0 (g := (mkF m 5 #[.val (.ref ta), .val (.int 1)] [])) rfl (hb hby d2_5) (by decide) (by decide)
  obtain ⟨b1, g1⟩ : ∃ z, z = h0.size := ⟨_, rfl⟩
  rw [← g1] at A1 D1 st1
  have ne_ta_b1 : ta ≠ b1 := Nat.ne_of_lt (Nat.lt_of_lt_of_le H0.lt (Nat.le_of_eq g1.symm))
  have g_b1 : n0 ≤ b1 := Nat.le_trans Z0 (Nat.le_of_eq g1.symm)
  have sz_b1 : h0.size ≤ b1 := Nat.le_trans (Keep.refl h0 []).1 (Nat.le_of_eq g1.symm)
  have f2_0 := Nat.le_trans Z0 E1.1
  have f2_1 := H0.ext E1
  have f2_2 := H1.ext E1
  have f2_3 := (Keep.refl h0 []).ext E1
  have F1_35 : Fld Z h1 b1 "java/lang/String" "coder" "B" (.int 0) := D1 (Or.inr (ow hw 35 rfl)) (ty := .byte) (by decide)
  have F1_37 : Fld Z h1 b1 "java/lang/String" "value" "[B" .null := D1 (Or.inr (ow hw 37 rfl)) (ty := (.array .byte)) (by decide)
  refine Wp.back (U' := (T1.setTop (mkF m 8 #[.val (.ref ta), .val (.int 1)] [(.ref b1)]))) st1 ?_
  refine Wp.back (U' := (T1.setTop (mkF m 10 #[.val (.ref ta), .val (.int 1)] [(.int 1), (.ref b1), (.ref b1)]))) (fun t k => XS.dup X1.here hx rfl (hb hby d2_8) rfl rfl (XT.iconstV X1.here hx rfl 1 (hb hby d2_9) (by decide) k)) ?_
  obtain ⟨T3, h3, k3, X3, e3, E3, A3, st3⟩ := newP X1 hx hZ (ow hw 0 rfl) e1 (g := (mkF m 10 #[.val (.ref ta), .val (.int 1)] [(.int 1), (.ref b1), (.ref b1)])) rfl (hb hby d2_10) rfl (by decide) (cap := 1) (by decide) (by decide) (by decide) (by decide)
  obtain ⟨b3, g3⟩ : ∃ z, z = h1.size := ⟨_, rfl⟩
  rw [← g3] at A3 st3
  have ne_ta_b3 : ta ≠ b3 := Nat.ne_of_lt (Nat.lt_of_lt_of_le f2_1.lt (Nat.le_of_eq g3.symm))
  have ne_b1_b3 : b1 ≠ b3 := Nat.ne_of_lt (Nat.lt_of_lt_of_le A1.lt (Nat.le_of_eq g3.symm))
  have g_b3 : n0 ≤ b3 := Nat.le_trans f2_0 (Nat.le_of_eq g3.symm)
  have sz_b3 : h0.size ≤ b3 := Nat.le_trans f2_3.1 (Nat.le_of_eq g3.symm)
  have f4_0 := Nat.le_trans f2_0 E3.1
  have f4_1 := f2_1.ext E3
  have f4_2 := f2_2.ext E3
  have f4_3 := f2_3.ext E3
  have f4_4 := A1.ext E3
  have f4_5 := F1_35.ext E3
  have f4_6 := F1_37.ext E3
  have V3 : Arv Z h3 b3 k3 .char (1 : Int32) [(.int 0)] (.int 0) := (Arv.new A3 (by decide)).pad (pad_rep [] (.int 0) 1)
  refine Wp.back (U' := (T3.setTop (mkF m 12 #[.val (.ref ta), .val (.int 1)] [(.ref b3), (.ref b1), (.ref b1)]))) st3 ?_
  refine Wp.back (U' := (T3.setTop (mkF m 16 #[.val (.ref ta), .val (.int 1)] [(.int 0), (.ref ta), (.int 0), (.ref b3), (.ref b3), (.ref b1), (.ref b1)]))) (fun t k => XS.dup X3.here hx rfl (hb hby d2_12) rfl rfl (XT.iconstV X3.here hx rfl 0 (hb hby d2_13) (by decide) (XS.aloadN X3.here hx rfl (hb hby d2_14) rfl rfl (XT.iconstV X3.here hx rfl 0 (hb hby d2_15) (by decide) k)))) ?_
  have vq5 := f4_1
  obtain ⟨cl5, Ar5, qa5, qs5, qn5, qh5, qg5⟩ := vq5
  have hin5 : ¬ ((0 : Int32) < 0 ∨ cl5.slots.size ≤ ((0 : Int32)).toNatClampNeg) := inb_of qs5 ⟨by decide, by decide⟩
  have hat5 : cl5.slots[((0 : Int32)).toNatClampNeg]? = some (.int c0) := Has.at qh5 hin5 rfl
  refine Wp.back (U' := (T3.setTop (mkF m 17 #[.val (.ref ta), .val (.int 1)] [(.int c0), (.int 0), (.ref b3), (.ref b3), (.ref b1), (.ref b1)]))) (fun t k => X3.caload hx (j := (0 : Int32)) (v := (.int c0)) (by rw [e3]; exact Ar5.1) (State.isArrayOf_alike hZ.alike Ar5.2.1) Ar5.2.2 hin5 hat5 (g := (mkF m 16 #[.val (.ref ta), .val (.int 1)] [(.int 0), (.ref ta), (.int 0), (.ref b3), (.ref b3), (.ref b1), (.ref b1)])) rfl rfl (hb hby d2_16) t k) ?_
  have vq6 := V3
  obtain ⟨cl6, Ar6, qa6, qs6, qn6, qh6, qg6⟩ := vq6
  have hin6 : ¬ ((0 : Int32) < 0 ∨ cl6.slots.size ≤ ((0 : Int32)).toNatClampNeg) := inb_of qs6 ⟨by decide, by decide⟩
  obtain ⟨T6, h6, X6, e6, W6, st6⟩ := stC X3 hx hZ e3 Ar6 (j := (0 : Int32)) hin6 (g := (mkF m 17 #[.val (.ref ta), .val (.int 1)] [(.int c0), (.int 0), (.ref b3), (.ref b3), (.ref b1), (.ref b1)])) rfl rfl (hb hby d2_17)
  have V6 : Arv Z h6 b3 k3 .char (1 : Int32) [(.int (nar .char c0))] (.int 0) := Arv.set Ar6 qa6 qs6 qn6 qh6 qg6 (fits_nar_char c0) W6 0 rfl (Nat.le_of_ble_eq_true rfl)
  have f7_0 := Nat.le_trans f4_0 (Keep.of_wr W6).1
  have f7_1 := f4_1.other W6 ne_ta_b3
  have f7_2 := f4_2.wr W6
  have f7_3 := f4_3.wr W6 (Or.inr sz_b3)
  have f7_4 := f4_4.wr W6
  have f7_5 := f4_5.other W6 (Or.inl ne_b1_b3)
  have f7_6 := f4_6.other W6 (Or.inl ne_b1_b3)
  have N6 := Fr.snoc X6 N0 g_b3
  refine Wp.back (U' := (T6.setTop (mkF m 18 #[.val (.ref ta), .val (.int 1)] [(.ref b3), (.ref b1), (.ref b1)]))) st6 ?_
  obtain ⟨_, _, ⟨T8, L8, k8, n8⟩, -, X8, ⟨Lc8, hQ8, l8, y8, z8⟩, st8⟩ := X6.specialBack hx (y := Y26) rfl hown (mvT hZ (ow hw 12 rfl)) (mvT hZ (ow hw 13 rfl)) (mvT hZ (ow hw 14 rfl)) (by decide) (backOf (W := 1) (rm_si1 l Z a0 hw [] b1 b3 (1 : Int32) k3 [(.int (nar .char c0))] [(.int (nar .byte ((nar .char c0)).toInt8.toInt32))] cs h6 n0 f7_0 f7_4 f7_6 f7_5 V6 f7_2 g_b1 (Ne.symm ne_b1_b3) (own_mk1 hc0) hcs) hZ (ow hw 14 rfl) (ow hw 11 rfl) (by decide) (by decide)) (g := (mkF m 18 #[.val (.ref ta), .val (.int 1)] [(.ref b3), (.ref b1), (.ref b1)])) rfl (by rw [hml]; rfl) (Steps.refl _) (a := b1) (argsL := [(.ref b3)]) (rest := [(.ref b1)]) (lenOf pd_22 rfl) rfl (Nat.le_of_eq rfl) (hb hby d2_18) (fun _ _ => ⟨rfl, e6, (by decide : 2 + 1 ≤ _), (by decide : 5 + 65 ≤ _)⟩)
  dsimp only [Pt.U, Pt.locs, Pt.cells, Pt.slots] at X8 l8 y8 z8 st8 hQ8
  subst l8 y8 z8
  obtain ⟨b8_0, k8_0, rfl, N8q, K8, sf8_0, o8_0, o8_1, o8_2, o8_3⟩ := hQ8
  have ne_ta_b8_0 : ta ≠ b8_0 := Nat.ne_of_lt (Nat.lt_of_lt_of_le f7_1.lt sf8_0)
  have ne_b1_b8_0 : b1 ≠ b8_0 := Nat.ne_of_lt (Nat.lt_of_lt_of_le f7_4.lt sf8_0)
  have ne_b3_b8_0 : b3 ≠ b8_0 := Nat.ne_of_lt (Nat.lt_of_lt_of_le V6.lt sf8_0)
  have g_b8_0 : n0 ≤ b8_0 := Nat.le_trans f7_0 sf8_0
  have sz_b8_0 : h0.size ≤ b8_0 := Nat.le_trans f7_3.1 sf8_0
  have f9_0 := Nat.le_trans f7_0 K8.1
  have f9_1 := f7_1.keep K8 (ninS ne_ta_b1 nin0)
  have f9_2 := Sta_keep f7_2 K8 (allS (Exa_ns f7_4) all0)
  have f9_3 := f7_3.trans K8 (allS (Or.inr sz_b1) all0)
  have f9_4 := f7_4.keep K8
  have f9_7 := V6.keep K8 (ninS (Ne.symm ne_b1_b3) nin0)
  have N8 := Fr.app N6 N8q
  refine Wp.back (U' := (T8.setTop (mkF m 21 #[.val (.ref ta), .val (.int 1)] [(.ref b1)]))) (fun t k => st8.trans k) ?_
  obtain ⟨fs, hr, hrun, hended, hW, hsame⟩ := X8.leave (v := (some (.ref b1))) (fun h => by rw [hret] at h; cases h)
  refine Wp.done (retOut X8 hx hret rfl (Or.inr (Or.inr (Or.inr (Or.inr ⟨rfl, rfl, rfl⟩)))) (hb hby d2_21) hr) hrun hended ⟨_, _, rfl, ?_, ⟨_, rfl⟩, hW, hsame.mono (by decide) (by decide)⟩
  show Q_tk1 Z ta kt c0 c1 c2 c3 c4 cs h0 n0 _ T8.heap _
  exact ⟨b1, b8_0, k8_0, rfl, N8, f9_3, sz_b1, sz_b8_0, o8_0, o8_1, o8_2, o8_3⟩
def Q_tk2 (Z : State) (ta : Addr) (kt : ClassId) (c0 : Int32) (c1 : Int32) (c2 : Int32) (c3 : Int32) (c4 : Int32) (cs : Int32) (h0 : Heap) (n0 : Nat) (v : Option Value) (h : Heap) (L : List Loc) : Prop := ∃ fr0 : Addr, ∃ fr1 : Addr, ∃ fk0 : ClassId, v = some (.ref fr0) ∧ Fr n0 L ∧ Keep h0 h [] ∧ h0.size ≤ fr0 ∧ h0.size ≤ fr1 ∧ Exa Z h fr0 "java/lang/String" ∧ Fld Z h fr0 "java/lang/String" "value" "[B" (.ref fr1) ∧ Fld Z h fr0 "java/lang/String" "coder" "B" (.int 0) ∧ Arv Z h fr1 fk0 .byte (2 : Int32) [(.int (nar .byte ((nar .char c0)).toInt8.toInt32)), (.int (nar .byte ((nar .char c1)).toInt8.toInt32))] (.int 0)
theorem d2_22 : decode method_4_code 22 = .ok (.iload_n 1, 1) := by decide +kernel
theorem d2_23 : decode method_4_code 23 = .ok (.iconst 2, 1) := by decide +kernel
theorem d2_24 : decode method_4_code 24 = .ok (.if_icmp .ne 26, 3) := by decide +kernel
theorem d2_27 : decode method_4_code 27 = .ok (.new 26, 3) := by decide +kernel
theorem d2_30 : decode method_4_code 30 = .ok (.dup, 1) := by decide +kernel
theorem d2_31 : decode method_4_code 31 = .ok (.iconst 2, 1) := by decide +kernel
theorem d2_32 : decode method_4_code 32 = .ok (.newarray .char, 2) := by decide +kernel
theorem d2_34 : decode method_4_code 34 = .ok (.dup, 1) := by decide +kernel
theorem d2_35 : decode method_4_code 35 = .ok (.iconst 0, 1) := by decide +kernel
theorem d2_36 : decode method_4_code 36 = .ok (.aload_n 0, 1) := by decide +kernel
theorem d2_37 : decode method_4_code 37 = .ok (.iconst 0, 1) := by decide +kernel
theorem d2_38 : decode method_4_code 38 = .ok (.caload, 1) := by decide +kernel
theorem d2_39 : decode method_4_code 39 = .ok (.castore, 1) := by decide +kernel
theorem d2_40 : decode method_4_code 40 = .ok (.dup, 1) := by decide +kernel
theorem d2_41 : decode method_4_code 41 = .ok (.iconst 1, 1) := by decide +kernel
theorem d2_42 : decode method_4_code 42 = .ok (.aload_n 0, 1) := by decide +kernel
theorem d2_43 : decode method_4_code 43 = .ok (.iconst 1, 1) := by decide +kernel
theorem d2_44 : decode method_4_code 44 = .ok (.caload, 1) := by decide +kernel
theorem d2_45 : decode method_4_code 45 = .ok (.castore, 1) := by decide +kernel
theorem d2_46 : decode method_4_code 46 = .ok (.invokespecial 32, 3) := by decide +kernel
theorem d2_49 : decode method_4_code 49 = .ok (.areturn, 1) := by decide +kernel
set_option maxRecDepth 65536 in
set_option maxHeartbeats 40000000 in
theorem rm_tk2 (l : Launch) (Z : State) (a0 : Array Value) (hw : ∀ d ∈ tables_1, d.before a0 Z = true) (ws : List Jvm.Cond) (ta : Addr) (kt : ClassId) (c0 : Int32) (c1 : Int32) (c2 : Int32) (c3 : Int32) (c4 : Int32) (cs : Int32) (h0 : Heap) (n0 : Nat) (Z0 : n0 ≤ h0.size) (H0 : Arv Z h0 ta kt .char (5 : Int32) [(.int c0), (.int c1), (.int c2), (.int c3), (.int c4)] (.int 0)) (H1 : Sta Z h0 "java/lang/String" "COMPACT_STRINGS" "Z" (.int cs)) (hc0 : ¬ (255 : Int32) < (nar .char c0)) (hc1 : ¬ (255 : Int32) < (nar .char c1)) (hcs : ¬ cs = (0 : Int32)) :
    Met l Z Y27 method_4_code 2 (some (.object "java/lang/String")) ws ({ frames := 4, cells := 3, slots := 71, locals := 66 } : Room) #[(.ref ta), (.int 2)] h0 (Q_tk2 Z ta kt c0 c1 c2 c3 c4 cs h0 n0) := by
  refine own_body (plainFor_of_name pn2) ?_
  intro p e s m below meth c s₁ hx hby hret hlk hml hZ hown hnm X0 e0
  have N0 := Fr.nil n0
  refine Wp.back (U' := (s₁.setTop (mkF m 0 #[.val (.ref ta), .val (.int 2)] []))) (fun t k => castTop (ef2_RI m ta (2 : Int32)) k) ?_
  refine Wp.back (U' := (s₁.setTop (mkF m 27 #[.val (.ref ta), .val (.int 2)] []))) (fun t k => XS.iloadN X0.here hx rfl (hb hby d2_0) rfl (XT.iconstV X0.here hx rfl 1 (hb hby d2_1) (by decide) (XS.icmpYes X0.here hx rfl (pc0 := 2) (pc' := 22) rfl (hb hby d2_2) rfl (feq (by decide)).2 (by decide) (by decide) (XS.iloadN X0.here hx rfl (hb hby d2_22) rfl (XT.iconstV X0.here hx rfl 2 (hb hby d2_23) (by decide) (XS.icmpNo X0.here hx rfl (hb hby d2_24) rfl (teq (by decide)).2 k)))))) ?_
  obtain ⟨T1, h1, X1, e1, E1, A1, D1, -, st1⟩ := newO X0 hx hZ hown (ow hw 9 rfl) (ow hw 10 rfl) (ow hw 11 rfl) e0 (g := (mkF m 27 #[.val (.ref ta), .val (.int 2)] [])) rfl (hb hby d2_27) (by decide) (by decide)
  obtain ⟨b1, g1⟩ : ∃ z, z = h0.size := ⟨_, rfl⟩
  rw [← g1] at A1 D1 st1
  have ne_ta_b1 : ta ≠ b1 := Nat.ne_of_lt (Nat.lt_of_lt_of_le H0.lt (Nat.le_of_eq g1.symm))
  have g_b1 : n0 ≤ b1 := Nat.le_trans Z0 (Nat.le_of_eq g1.symm)
  have sz_b1 : h0.size ≤ b1 := Nat.le_trans (Keep.refl h0 []).1 (Nat.le_of_eq g1.symm)
  have f2_0 := Nat.le_trans Z0 E1.1
  have f2_1 := H0.ext E1
  have f2_2 := H1.ext E1
  have f2_3 := (Keep.refl h0 []).ext E1
  have F1_35 : Fld Z h1 b1 "java/lang/String" "coder" "B" (.int 0) := D1 (Or.inr (ow hw 35 rfl)) (ty := .byte) (by decide)
  have F1_37 : Fld Z h1 b1 "java/lang/String" "value" "[B" .null := D1 (Or.inr (ow hw 37 rfl)) (ty := (.array .byte)) (by decide)
  refine Wp.back (U' := (T1.setTop (mkF m 30 #[.val (.ref ta), .val (.int 2)] [(.ref b1)]))) st1 ?_
  refine Wp.back (U' := (T1.setTop (mkF m 32 #[.val (.ref ta), .val (.int 2)] [(.int 2), (.ref b1), (.ref b1)]))) (fun t k => XS.dup X1.here hx rfl (hb hby d2_30) rfl rfl (XT.iconstV X1.here hx rfl 2 (hb hby d2_31) (by decide) k)) ?_
  obtain ⟨T3, h3, k3, X3, e3, E3, A3, st3⟩ := newP X1 hx hZ (ow hw 0 rfl) e1 (g := (mkF m 32 #[.val (.ref ta), .val (.int 2)] [(.int 2), (.ref b1), (.ref b1)])) rfl (hb hby d2_32) rfl (by decide) (cap := 2) (by decide) (by decide) (by decide) (by decide)
  obtain ⟨b3, g3⟩ : ∃ z, z = h1.size := ⟨_, rfl⟩
  rw [← g3] at A3 st3
  have ne_ta_b3 : ta ≠ b3 := Nat.ne_of_lt (Nat.lt_of_lt_of_le f2_1.lt (Nat.le_of_eq g3.symm))
  have ne_b1_b3 : b1 ≠ b3 := Nat.ne_of_lt (Nat.lt_of_lt_of_le A1.lt (Nat.le_of_eq g3.symm))
  have g_b3 : n0 ≤ b3 := Nat.le_trans f2_0 (Nat.le_of_eq g3.symm)
  have sz_b3 : h0.size ≤ b3 := Nat.le_trans f2_3.1 (Nat.le_of_eq g3.symm)
  have f4_0 := Nat.le_trans f2_0 E3.1
  have f4_1 := f2_1.ext E3
  have f4_2 := f2_2.ext E3
  have f4_3 := f2_3.ext E3
  have f4_4 := A1.ext E3
  have f4_5 := F1_35.ext E3
  have f4_6 := F1_37.ext E3
  have V3 : Arv Z h3 b3 k3 .char (2 : Int32) [(.int 0), (.int 0)] (.int 0) := (Arv.new A3 (by decide)).pad (pad_rep [] (.int 0) 2)
  refine Wp.back (U' := (T3.setTop (mkF m 34 #[.val (.ref ta), .val (.int 2)] [(.ref b3), (.ref b1), (.ref b1)]))) st3 ?_
  refine Wp.back (U' := (T3.setTop (mkF m 38 #[.val (.ref ta), .val (.int 2)] [(.int 0), (.ref ta), (.int 0), (.ref b3), (.ref b3), (.ref b1), (.ref b1)]))) (fun t k => XS.dup X3.here hx rfl (hb hby d2_34) rfl rfl (XT.iconstV X3.here hx rfl 0 (hb hby d2_35) (by decide) (XS.aloadN X3.here hx rfl (hb hby d2_36) rfl rfl (XT.iconstV X3.here hx rfl 0 (hb hby d2_37) (by decide) k)))) ?_
  have vq5 := f4_1
  obtain ⟨cl5, Ar5, qa5, qs5, qn5, qh5, qg5⟩ := vq5
  have hin5 : ¬ ((0 : Int32) < 0 ∨ cl5.slots.size ≤ ((0 : Int32)).toNatClampNeg) := inb_of qs5 ⟨by decide, by decide⟩
  have hat5 : cl5.slots[((0 : Int32)).toNatClampNeg]? = some (.int c0) := Has.at qh5 hin5 rfl
  refine Wp.back (U' := (T3.setTop (mkF m 39 #[.val (.ref ta), .val (.int 2)] [(.int c0), (.int 0), (.ref b3), (.ref b3), (.ref b1), (.ref b1)]))) (fun t k => X3.caload hx (j := (0 : Int32)) (v := (.int c0)) (by rw [e3]; exact Ar5.1) (State.isArrayOf_alike hZ.alike Ar5.2.1) Ar5.2.2 hin5 hat5 (g := (mkF m 38 #[.val (.ref ta), .val (.int 2)] [(.int 0), (.ref ta), (.int 0), (.ref b3), (.ref b3), (.ref b1), (.ref b1)])) rfl rfl (hb hby d2_38) t k) ?_
  have vq6 := V3
  obtain ⟨cl6, Ar6, qa6, qs6, qn6, qh6, qg6⟩ := vq6
  have hin6 : ¬ ((0 : Int32) < 0 ∨ cl6.slots.size ≤ ((0 : Int32)).toNatClampNeg) := inb_of qs6 ⟨by decide, by decide⟩
  obtain ⟨T6, h6, X6, e6, W6, st6⟩ := stC X3 hx hZ e3 Ar6 (j := (0 : Int32)) hin6 (g := (mkF m 39 #[.val (.ref ta), .val (.int 2)] [(.int c0), (.int 0), (.ref b3), (.ref b3), (.ref b1), (.ref b1)])) rfl rfl (hb hby d2_39)
  have V6 : Arv Z h6 b3 k3 .char (2 : Int32) [(.int (nar .char c0)), (.int 0)] (.int 0) := Arv.set Ar6 qa6 qs6 qn6 qh6 qg6 (fits_nar_char c0) W6 0 rfl (Nat.le_of_ble_eq_true rfl)
  have f7_0 := Nat.le_trans f4_0 (Keep.of_wr W6).1
  have f7_1 := f4_1.other W6 ne_ta_b3
  have f7_2 := f4_2.wr W6
  have f7_3 := f4_3.wr W6 (Or.inr sz_b3)
  have f7_4 := f4_4.wr W6
  have f7_5 := f4_5.other W6 (Or.inl ne_b1_b3)
  have f7_6 := f4_6.other W6 (Or.inl ne_b1_b3)
  have N6 := Fr.snoc X6 N0 g_b3
  refine Wp.back (U' := (T6.setTop (mkF m 40 #[.val (.ref ta), .val (.int 2)] [(.ref b3), (.ref b1), (.ref b1)]))) st6 ?_
  refine Wp.back (U' := (T6.setTop (mkF m 44 #[.val (.ref ta), .val (.int 2)] [(.int 1), (.ref ta), (.int 1), (.ref b3), (.ref b3), (.ref b1), (.ref b1)]))) (fun t k => XS.dup X6.here hx rfl (hb hby d2_40) rfl rfl (XT.iconstV X6.here hx rfl 1 (hb hby d2_41) (by decide) (XS.aloadN X6.here hx rfl (hb hby d2_42) rfl rfl (XT.iconstV X6.here hx rfl 1 (hb hby d2_43) (by decide) k)))) ?_
  have vq8 := f7_1
  obtain ⟨cl8, Ar8, qa8, qs8, qn8, qh8, qg8⟩ := vq8
  have hin8 : ¬ ((1 : Int32) < 0 ∨ cl8.slots.size ≤ ((1 : Int32)).toNatClampNeg) := inb_of qs8 ⟨by decide, by decide⟩
  have hat8 : cl8.slots[((1 : Int32)).toNatClampNeg]? = some (.int c1) := Has.at qh8 hin8 rfl
  refine Wp.back (U' := (T6.setTop (mkF m 45 #[.val (.ref ta), .val (.int 2)] [(.int c1), (.int 1), (.ref b3), (.ref b3), (.ref b1), (.ref b1)]))) (fun t k => X6.caload hx (j := (1 : Int32)) (v := (.int c1)) (by rw [e6]; exact Ar8.1) (State.isArrayOf_alike hZ.alike Ar8.2.1) Ar8.2.2 hin8 hat8 (g := (mkF m 44 #[.val (.ref ta), .val (.int 2)] [(.int 1), (.ref ta), (.int 1), (.ref b3), (.ref b3), (.ref b1), (.ref b1)])) rfl rfl (hb hby d2_44) t k) ?_
  have vq9 := V6
  obtain ⟨cl9, Ar9, qa9, qs9, qn9, qh9, qg9⟩ := vq9
  have hin9 : ¬ ((1 : Int32) < 0 ∨ cl9.slots.size ≤ ((1 : Int32)).toNatClampNeg) := inb_of qs9 ⟨by decide, by decide⟩
  obtain ⟨T9, h9, X9, e9, W9, st9⟩ := stC X6 hx hZ e6 Ar9 (j := (1 : Int32)) hin9 (g := (mkF m 45 #[.val (.ref ta), .val (.int 2)] [(.int c1), (.int 1), (.ref b3), (.ref b3), (.ref b1), (.ref b1)])) rfl rfl (hb hby d2_45)
  have V9 : Arv Z h9 b3 k3 .char (2 : Int32) [(.int (nar .char c0)), (.int (nar .char c1))] (.int 0) := Arv.set Ar9 qa9 qs9 qn9 qh9 qg9 (fits_nar_char c1) W9 1 rfl (Nat.le_of_ble_eq_true rfl)
  have f10_0 := Nat.le_trans f7_0 (Keep.of_wr W9).1
  have f10_1 := f7_1.other W9 ne_ta_b3
  have f10_2 := f7_2.wr W9
  have f10_3 := f7_3.wr W9 (Or.inr sz_b3)
  have f10_4 := f7_4.wr W9
  have f10_5 := f7_5.other W9 (Or.inl ne_b1_b3)
  have f10_6 := f7_6.other W9 (Or.inl ne_b1_b3)
  have N9 := Fr.snoc X9 N6 g_b3
  refine Wp.back (U' := (T9.setTop (mkF m 46 #[.val (.ref ta), .val (.int 2)] [(.ref b3), (.ref b1), (.ref b1)]))) st9 ?_
  obtain ⟨_, _, ⟨T11, L11, k11, n11⟩, -, X11, ⟨Lc11, hQ11, l11, y11, z11⟩, st11⟩ := X9.specialBack hx (y := Y26) rfl hown (mvT hZ (ow hw 12 rfl)) (mvT hZ (ow hw 13 rfl)) (mvT hZ (ow hw 14 rfl)) (by decide) (backOf (W := 1) (rm_si1 l Z a0 hw [] b1 b3 (2 : Int32) k3 [(.int (nar .char c0)), (.int (nar .char c1))] [(.int (nar .byte ((nar .char c0)).toInt8.toInt32)), (.int (nar .byte ((nar .char c1)).toInt8.toInt32))] cs h9 n0 f10_0 f10_4 f10_6 f10_5 V9 f10_2 g_b1 (Ne.symm ne_b1_b3) (own_mk2 hc0 hc1) hcs) hZ (ow hw 14 rfl) (ow hw 11 rfl) (by decide) (by decide)) (g := (mkF m 46 #[.val (.ref ta), .val (.int 2)] [(.ref b3), (.ref b1), (.ref b1)])) rfl (by rw [hml]; rfl) (Steps.refl _) (a := b1) (argsL := [(.ref b3)]) (rest := [(.ref b1)]) (lenOf pd_22 rfl) rfl (Nat.le_of_eq rfl) (hb hby d2_46) (fun _ _ => ⟨rfl, e9, (by decide : 2 + 1 ≤ _), (by decide : 6 + 65 ≤ _)⟩)
  dsimp only [Pt.U, Pt.locs, Pt.cells, Pt.slots] at X11 l11 y11 z11 st11 hQ11
  subst l11 y11 z11
  obtain ⟨b11_0, k11_0, rfl, N11q, K11, sf11_0, o11_0, o11_1, o11_2, o11_3⟩ := hQ11
  have ne_ta_b11_0 : ta ≠ b11_0 := Nat.ne_of_lt (Nat.lt_of_lt_of_le f10_1.lt sf11_0)
  have ne_b1_b11_0 : b1 ≠ b11_0 := Nat.ne_of_lt (Nat.lt_of_lt_of_le f10_4.lt sf11_0)
  have ne_b3_b11_0 : b3 ≠ b11_0 := Nat.ne_of_lt (Nat.lt_of_lt_of_le V9.lt sf11_0)
  have g_b11_0 : n0 ≤ b11_0 := Nat.le_trans f10_0 sf11_0
  have sz_b11_0 : h0.size ≤ b11_0 := Nat.le_trans f10_3.1 sf11_0
  have f12_0 := Nat.le_trans f10_0 K11.1
  have f12_1 := f10_1.keep K11 (ninS ne_ta_b1 nin0)
  have f12_2 := Sta_keep f10_2 K11 (allS (Exa_ns f10_4) all0)
  have f12_3 := f10_3.trans K11 (allS (Or.inr sz_b1) all0)
  have f12_4 := f10_4.keep K11
  have f12_7 := V9.keep K11 (ninS (Ne.symm ne_b1_b3) nin0)
  have N11 := Fr.app N9 N11q
  refine Wp.back (U' := (T11.setTop (mkF m 49 #[.val (.ref ta), .val (.int 2)] [(.ref b1)]))) (fun t k => st11.trans k) ?_
  obtain ⟨fs, hr, hrun, hended, hW, hsame⟩ := X11.leave (v := (some (.ref b1))) (fun h => by rw [hret] at h; cases h)
  refine Wp.done (retOut X11 hx hret rfl (Or.inr (Or.inr (Or.inr (Or.inr ⟨rfl, rfl, rfl⟩)))) (hb hby d2_49) hr) hrun hended ⟨_, _, rfl, ?_, ⟨_, rfl⟩, hW, hsame.mono (by decide) (by decide)⟩
  show Q_tk2 Z ta kt c0 c1 c2 c3 c4 cs h0 n0 _ T11.heap _
  exact ⟨b1, b11_0, k11_0, rfl, N11, f12_3, sz_b1, sz_b11_0, o11_0, o11_1, o11_2, o11_3⟩
def Q_tk3 (Z : State) (ta : Addr) (kt : ClassId) (c0 : Int32) (c1 : Int32) (c2 : Int32) (c3 : Int32) (c4 : Int32) (cs : Int32) (h0 : Heap) (n0 : Nat) (v : Option Value) (h : Heap) (L : List Loc) : Prop := ∃ fr0 : Addr, ∃ fr1 : Addr, ∃ fk0 : ClassId, v = some (.ref fr0) ∧ Fr n0 L ∧ Keep h0 h [] ∧ h0.size ≤ fr0 ∧ h0.size ≤ fr1 ∧ Exa Z h fr0 "java/lang/String" ∧ Fld Z h fr0 "java/lang/String" "value" "[B" (.ref fr1) ∧ Fld Z h fr0 "java/lang/String" "coder" "B" (.int 0) ∧ Arv Z h fr1 fk0 .byte (3 : Int32) [(.int (nar .byte ((nar .char c0)).toInt8.toInt32)), (.int (nar .byte ((nar .char c1)).toInt8.toInt32)), (.int (nar .byte ((nar .char c2)).toInt8.toInt32))] (.int 0)
theorem d2_50 : decode method_4_code 50 = .ok (.iload_n 1, 1) := by decide +kernel
theorem d2_51 : decode method_4_code 51 = .ok (.iconst 3, 1) := by decide +kernel
theorem d2_52 : decode method_4_code 52 = .ok (.if_icmp .ne 32, 3) := by decide +kernel
theorem d2_55 : decode method_4_code 55 = .ok (.new 26, 3) := by decide +kernel
theorem d2_58 : decode method_4_code 58 = .ok (.dup, 1) := by decide +kernel
theorem d2_59 : decode method_4_code 59 = .ok (.iconst 3, 1) := by decide +kernel
theorem d2_60 : decode method_4_code 60 = .ok (.newarray .char, 2) := by decide +kernel
theorem d2_62 : decode method_4_code 62 = .ok (.dup, 1) := by decide +kernel
theorem d2_63 : decode method_4_code 63 = .ok (.iconst 0, 1) := by decide +kernel
theorem d2_64 : decode method_4_code 64 = .ok (.aload_n 0, 1) := by decide +kernel
theorem d2_65 : decode method_4_code 65 = .ok (.iconst 0, 1) := by decide +kernel
theorem d2_66 : decode method_4_code 66 = .ok (.caload, 1) := by decide +kernel
theorem d2_67 : decode method_4_code 67 = .ok (.castore, 1) := by decide +kernel
theorem d2_68 : decode method_4_code 68 = .ok (.dup, 1) := by decide +kernel
theorem d2_69 : decode method_4_code 69 = .ok (.iconst 1, 1) := by decide +kernel
theorem d2_70 : decode method_4_code 70 = .ok (.aload_n 0, 1) := by decide +kernel
theorem d2_71 : decode method_4_code 71 = .ok (.iconst 1, 1) := by decide +kernel
theorem d2_72 : decode method_4_code 72 = .ok (.caload, 1) := by decide +kernel
theorem d2_73 : decode method_4_code 73 = .ok (.castore, 1) := by decide +kernel
theorem d2_74 : decode method_4_code 74 = .ok (.dup, 1) := by decide +kernel
theorem d2_75 : decode method_4_code 75 = .ok (.iconst 2, 1) := by decide +kernel
theorem d2_76 : decode method_4_code 76 = .ok (.aload_n 0, 1) := by decide +kernel
theorem d2_77 : decode method_4_code 77 = .ok (.iconst 2, 1) := by decide +kernel
theorem d2_78 : decode method_4_code 78 = .ok (.caload, 1) := by decide +kernel
theorem d2_79 : decode method_4_code 79 = .ok (.castore, 1) := by decide +kernel
theorem d2_80 : decode method_4_code 80 = .ok (.invokespecial 32, 3) := by decide +kernel
theorem d2_83 : decode method_4_code 83 = .ok (.areturn, 1) := by decide +kernel
set_option maxRecDepth 65536 in
set_option maxHeartbeats 40000000 in
theorem rm_tk3 (l : Launch) (Z : State) (a0 : Array Value) (hw : ∀ d ∈ tables_1, d.before a0 Z = true) (ws : List Jvm.Cond) (ta : Addr) (kt : ClassId) (c0 : Int32) (c1 : Int32) (c2 : Int32) (c3 : Int32) (c4 : Int32) (cs : Int32) (h0 : Heap) (n0 : Nat) (Z0 : n0 ≤ h0.size) (H0 : Arv Z h0 ta kt .char (5 : Int32) [(.int c0), (.int c1), (.int c2), (.int c3), (.int c4)] (.int 0)) (H1 : Sta Z h0 "java/lang/String" "COMPACT_STRINGS" "Z" (.int cs)) (hc0 : ¬ (255 : Int32) < (nar .char c0)) (hc1 : ¬ (255 : Int32) < (nar .char c1)) (hc2 : ¬ (255 : Int32) < (nar .char c2)) (hcs : ¬ cs = (0 : Int32)) :
    Met l Z Y27 method_4_code 2 (some (.object "java/lang/String")) ws ({ frames := 4, cells := 3, slots := 72, locals := 66 } : Room) #[(.ref ta), (.int 3)] h0 (Q_tk3 Z ta kt c0 c1 c2 c3 c4 cs h0 n0) := by
  refine own_body (plainFor_of_name pn2) ?_
  intro p e s m below meth c s₁ hx hby hret hlk hml hZ hown hnm X0 e0
  have N0 := Fr.nil n0
  refine Wp.back (U' := (s₁.setTop (mkF m 0 #[.val (.ref ta), .val (.int 3)] []))) (fun t k => castTop (ef2_RI m ta (3 : Int32)) k) ?_
  refine Wp.back (U' := (s₁.setTop (mkF m 55 #[.val (.ref ta), .val (.int 3)] []))) (fun t k => XS.iloadN X0.here hx rfl (hb hby d2_0) rfl (XT.iconstV X0.here hx rfl 1 (hb hby d2_1) (by decide) (XS.icmpYes X0.here hx rfl (pc0 := 2) (pc' := 22) rfl (hb hby d2_2) rfl (feq (by decide)).2 (by decide) (by decide) (XS.iloadN X0.here hx rfl (hb hby d2_22) rfl (XT.iconstV X0.here hx rfl 2 (hb hby d2_23) (by decide) (XS.icmpYes X0.here hx rfl (pc0 := 24) (pc' := 50) rfl (hb hby d2_24) rfl (feq (by decide)).2 (by decide) (by decide) (XS.iloadN X0.here hx rfl (hb hby d2_50) rfl (XT.iconstV X0.here hx rfl 3 (hb hby d2_51) (by decide) (XS.icmpNo X0.here hx rfl (hb hby d2_52) rfl (teq (by decide)).2 k))))))))) ?_
  obtain ⟨T1, h1, X1, e1, E1, A1, D1, -, st1⟩ := newO X0 hx hZ hown (ow hw 9 rfl) (ow hw 10 rfl) (ow hw 11 rfl) e0 (g := (mkF m 55 #[.val (.ref ta), .val (.int 3)] [])) rfl (hb hby d2_55) (by decide) (by decide)
  obtain ⟨b1, g1⟩ : ∃ z, z = h0.size := ⟨_, rfl⟩
  rw [← g1] at A1 D1 st1
  have ne_ta_b1 : ta ≠ b1 := Nat.ne_of_lt (Nat.lt_of_lt_of_le H0.lt (Nat.le_of_eq g1.symm))
  have g_b1 : n0 ≤ b1 := Nat.le_trans Z0 (Nat.le_of_eq g1.symm)
  have sz_b1 : h0.size ≤ b1 := Nat.le_trans (Keep.refl h0 []).1 (Nat.le_of_eq g1.symm)
  have f2_0 := Nat.le_trans Z0 E1.1
  have f2_1 := H0.ext E1
  have f2_2 := H1.ext E1
  have f2_3 := (Keep.refl h0 []).ext E1
  have F1_35 : Fld Z h1 b1 "java/lang/String" "coder" "B" (.int 0) := D1 (Or.inr (ow hw 35 rfl)) (ty := .byte) (by decide)
  have F1_37 : Fld Z h1 b1 "java/lang/String" "value" "[B" .null := D1 (Or.inr (ow hw 37 rfl)) (ty := (.array .byte)) (by decide)
  refine Wp.back (U' := (T1.setTop (mkF m 58 #[.val (.ref ta), .val (.int 3)] [(.ref b1)]))) st1 ?_
  refine Wp.back (U' := (T1.setTop (mkF m 60 #[.val (.ref ta), .val (.int 3)] [(.int 3), (.ref b1), (.ref b1)]))) (fun t k => XS.dup X1.here hx rfl (hb hby d2_58) rfl rfl (XT.iconstV X1.here hx rfl 3 (hb hby d2_59) (by decide) k)) ?_
  obtain ⟨T3, h3, k3, X3, e3, E3, A3, st3⟩ := newP X1 hx hZ (ow hw 0 rfl) e1 (g := (mkF m 60 #[.val (.ref ta), .val (.int 3)] [(.int 3), (.ref b1), (.ref b1)])) rfl (hb hby d2_60) rfl (by decide) (cap := 3) (by decide) (by decide) (by decide) (by decide)
  obtain ⟨b3, g3⟩ : ∃ z, z = h1.size := ⟨_, rfl⟩
  rw [← g3] at A3 st3
  have ne_ta_b3 : ta ≠ b3 := Nat.ne_of_lt (Nat.lt_of_lt_of_le f2_1.lt (Nat.le_of_eq g3.symm))
  have ne_b1_b3 : b1 ≠ b3 := Nat.ne_of_lt (Nat.lt_of_lt_of_le A1.lt (Nat.le_of_eq g3.symm))
  have g_b3 : n0 ≤ b3 := Nat.le_trans f2_0 (Nat.le_of_eq g3.symm)
  have sz_b3 : h0.size ≤ b3 := Nat.le_trans f2_3.1 (Nat.le_of_eq g3.symm)
  have f4_0 := Nat.le_trans f2_0 E3.1
  have f4_1 := f2_1.ext E3
  have f4_2 := f2_2.ext E3
  have f4_3 := f2_3.ext E3
  have f4_4 := A1.ext E3
  have f4_5 := F1_35.ext E3
  have f4_6 := F1_37.ext E3
  have V3 : Arv Z h3 b3 k3 .char (3 : Int32) [(.int 0), (.int 0), (.int 0)] (.int 0) := (Arv.new A3 (by decide)).pad (pad_rep [] (.int 0) 3)
  refine Wp.back (U' := (T3.setTop (mkF m 62 #[.val (.ref ta), .val (.int 3)] [(.ref b3), (.ref b1), (.ref b1)]))) st3 ?_
  refine Wp.back (U' := (T3.setTop (mkF m 66 #[.val (.ref ta), .val (.int 3)] [(.int 0), (.ref ta), (.int 0), (.ref b3), (.ref b3), (.ref b1), (.ref b1)]))) (fun t k => XS.dup X3.here hx rfl (hb hby d2_62) rfl rfl (XT.iconstV X3.here hx rfl 0 (hb hby d2_63) (by decide) (XS.aloadN X3.here hx rfl (hb hby d2_64) rfl rfl (XT.iconstV X3.here hx rfl 0 (hb hby d2_65) (by decide) k)))) ?_
  have vq5 := f4_1
  obtain ⟨cl5, Ar5, qa5, qs5, qn5, qh5, qg5⟩ := vq5
  have hin5 : ¬ ((0 : Int32) < 0 ∨ cl5.slots.size ≤ ((0 : Int32)).toNatClampNeg) := inb_of qs5 ⟨by decide, by decide⟩
  have hat5 : cl5.slots[((0 : Int32)).toNatClampNeg]? = some (.int c0) := Has.at qh5 hin5 rfl
  refine Wp.back (U' := (T3.setTop (mkF m 67 #[.val (.ref ta), .val (.int 3)] [(.int c0), (.int 0), (.ref b3), (.ref b3), (.ref b1), (.ref b1)]))) (fun t k => X3.caload hx (j := (0 : Int32)) (v := (.int c0)) (by rw [e3]; exact Ar5.1) (State.isArrayOf_alike hZ.alike Ar5.2.1) Ar5.2.2 hin5 hat5 (g := (mkF m 66 #[.val (.ref ta), .val (.int 3)] [(.int 0), (.ref ta), (.int 0), (.ref b3), (.ref b3), (.ref b1), (.ref b1)])) rfl rfl (hb hby d2_66) t k) ?_
  have vq6 := V3
  obtain ⟨cl6, Ar6, qa6, qs6, qn6, qh6, qg6⟩ := vq6
  have hin6 : ¬ ((0 : Int32) < 0 ∨ cl6.slots.size ≤ ((0 : Int32)).toNatClampNeg) := inb_of qs6 ⟨by decide, by decide⟩
  obtain ⟨T6, h6, X6, e6, W6, st6⟩ := stC X3 hx hZ e3 Ar6 (j := (0 : Int32)) hin6 (g := (mkF m 67 #[.val (.ref ta), .val (.int 3)] [(.int c0), (.int 0), (.ref b3), (.ref b3), (.ref b1), (.ref b1)])) rfl rfl (hb hby d2_67)
  have V6 : Arv Z h6 b3 k3 .char (3 : Int32) [(.int (nar .char c0)), (.int 0), (.int 0)] (.int 0) := Arv.set Ar6 qa6 qs6 qn6 qh6 qg6 (fits_nar_char c0) W6 0 rfl (Nat.le_of_ble_eq_true rfl)
  have f7_0 := Nat.le_trans f4_0 (Keep.of_wr W6).1
  have f7_1 := f4_1.other W6 ne_ta_b3
  have f7_2 := f4_2.wr W6
  have f7_3 := f4_3.wr W6 (Or.inr sz_b3)
  have f7_4 := f4_4.wr W6
  have f7_5 := f4_5.other W6 (Or.inl ne_b1_b3)
  have f7_6 := f4_6.other W6 (Or.inl ne_b1_b3)
  have N6 := Fr.snoc X6 N0 g_b3
  refine Wp.back (U' := (T6.setTop (mkF m 68 #[.val (.ref ta), .val (.int 3)] [(.ref b3), (.ref b1), (.ref b1)]))) st6 ?_
  refine Wp.back (U' := (T6.setTop (mkF m 72 #[.val (.ref ta), .val (.int 3)] [(.int 1), (.ref ta), (.int 1), (.ref b3), (.ref b3), (.ref b1), (.ref b1)]))) (fun t k => XS.dup X6.here hx rfl (hb hby d2_68) rfl rfl (XT.iconstV X6.here hx rfl 1 (hb hby d2_69) (by decide) (XS.aloadN X6.here hx rfl (hb hby d2_70) rfl rfl (XT.iconstV X6.here hx rfl 1 (hb hby d2_71) (by decide) k)))) ?_
  have vq8 := f7_1
  obtain ⟨cl8, Ar8, qa8, qs8, qn8, qh8, qg8⟩ := vq8
  have hin8 : ¬ ((1 : Int32) < 0 ∨ cl8.slots.size ≤ ((1 : Int32)).toNatClampNeg) := inb_of qs8 ⟨by decide, by decide⟩
  have hat8 : cl8.slots[((1 : Int32)).toNatClampNeg]? = some (.int c1) := Has.at qh8 hin8 rfl
  refine Wp.back (U' := (T6.setTop (mkF m 73 #[.val (.ref ta), .val (.int 3)] [(.int c1), (.int 1), (.ref b3), (.ref b3), (.ref b1), (.ref b1)]))) (fun t k => X6.caload hx (j := (1 : Int32)) (v := (.int c1)) (by rw [e6]; exact Ar8.1) (State.isArrayOf_alike hZ.alike Ar8.2.1) Ar8.2.2 hin8 hat8 (g := (mkF m 72 #[.val (.ref ta), .val (.int 3)] [(.int 1), (.ref ta), (.int 1), (.ref b3), (.ref b3), (.ref b1), (.ref b1)])) rfl rfl (hb hby d2_72) t k) ?_
  have vq9 := V6
  obtain ⟨cl9, Ar9, qa9, qs9, qn9, qh9, qg9⟩ := vq9
  have hin9 : ¬ ((1 : Int32) < 0 ∨ cl9.slots.size ≤ ((1 : Int32)).toNatClampNeg) := inb_of qs9 ⟨by decide, by decide⟩
  obtain ⟨T9, h9, X9, e9, W9, st9⟩ := stC X6 hx hZ e6 Ar9 (j := (1 : Int32)) hin9 (g := (mkF m 73 #[.val (.ref ta), .val (.int 3)] [(.int c1), (.int 1), (.ref b3), (.ref b3), (.ref b1), (.ref b1)])) rfl rfl (hb hby d2_73)
  have V9 : Arv Z h9 b3 k3 .char (3 : Int32) [(.int (nar .char c0)), (.int (nar .char c1)), (.int 0)] (.int 0) := Arv.set Ar9 qa9 qs9 qn9 qh9 qg9 (fits_nar_char c1) W9 1 rfl (Nat.le_of_ble_eq_true rfl)
  have f10_0 := Nat.le_trans f7_0 (Keep.of_wr W9).1
  have f10_1 := f7_1.other W9 ne_ta_b3
  have f10_2 := f7_2.wr W9
  have f10_3 := f7_3.wr W9 (Or.inr sz_b3)
  have f10_4 := f7_4.wr W9
  have f10_5 := f7_5.other W9 (Or.inl ne_b1_b3)
  have f10_6 := f7_6.other W9 (Or.inl ne_b1_b3)
  have N9 := Fr.snoc X9 N6 g_b3
  refine Wp.back (U' := (T9.setTop (mkF m 74 #[.val (.ref ta), .val (.int 3)] [(.ref b3), (.ref b1), (.ref b1)]))) st9 ?_
  refine Wp.back (U' := (T9.setTop (mkF m 78 #[.val (.ref ta), .val (.int 3)] [(.int 2), (.ref ta), (.int 2), (.ref b3), (.ref b3), (.ref b1), (.ref b1)]))) (fun t k => XS.dup X9.here hx rfl (hb hby d2_74) rfl rfl (XT.iconstV X9.here hx rfl 2 (hb hby d2_75) (by decide) (XS.aloadN X9.here hx rfl (hb hby d2_76) rfl rfl (XT.iconstV X9.here hx rfl 2 (hb hby d2_77) (by decide) k)))) ?_
  have vq11 := f10_1
  obtain ⟨cl11, Ar11, qa11, qs11, qn11, qh11, qg11⟩ := vq11
  have hin11 : ¬ ((2 : Int32) < 0 ∨ cl11.slots.size ≤ ((2 : Int32)).toNatClampNeg) := inb_of qs11 ⟨by decide, by decide⟩
  have hat11 : cl11.slots[((2 : Int32)).toNatClampNeg]? = some (.int c2) := Has.at qh11 hin11 rfl
  refine Wp.back (U' := (T9.setTop (mkF m 79 #[.val (.ref ta), .val (.int 3)] [(.int c2), (.int 2), (.ref b3), (.ref b3), (.ref b1), (.ref b1)]))) (fun t k => X9.caload hx (j := (2 : Int32)) (v := (.int c2)) (by rw [e9]; exact Ar11.1) (State.isArrayOf_alike hZ.alike Ar11.2.1) Ar11.2.2 hin11 hat11 (g := (mkF m 78 #[.val (.ref ta), .val (.int 3)] [(.int 2), (.ref ta), (.int 2), (.ref b3), (.ref b3), (.ref b1), (.ref b1)])) rfl rfl (hb hby d2_78) t k) ?_
  have vq12 := V9
  obtain ⟨cl12, Ar12, qa12, qs12, qn12, qh12, qg12⟩ := vq12
  have hin12 : ¬ ((2 : Int32) < 0 ∨ cl12.slots.size ≤ ((2 : Int32)).toNatClampNeg) := inb_of qs12 ⟨by decide, by decide⟩
  obtain ⟨T12, h12, X12, e12, W12, st12⟩ := stC X9 hx hZ e9 Ar12 (j := (2 : Int32)) hin12 (g := (mkF m 79 #[.val (.ref ta), .val (.int 3)] [(.int c2), (.int 2), (.ref b3), (.ref b3), (.ref b1), (.ref b1)])) rfl rfl (hb hby d2_79)
  have V12 : Arv Z h12 b3 k3 .char (3 : Int32) [(.int (nar .char c0)), (.int (nar .char c1)), (.int (nar .char c2))] (.int 0) := Arv.set Ar12 qa12 qs12 qn12 qh12 qg12 (fits_nar_char c2) W12 2 rfl (Nat.le_of_ble_eq_true rfl)
  have f13_0 := Nat.le_trans f10_0 (Keep.of_wr W12).1
  have f13_1 := f10_1.other W12 ne_ta_b3
  have f13_2 := f10_2.wr W12
  have f13_3 := f10_3.wr W12 (Or.inr sz_b3)
  have f13_4 := f10_4.wr W12
  have f13_5 := f10_5.other W12 (Or.inl ne_b1_b3)
  have f13_6 := f10_6.other W12 (Or.inl ne_b1_b3)
  have N12 := Fr.snoc X12 N9 g_b3
  refine Wp.back (U' := (T12.setTop (mkF m 80 #[.val (.ref ta), .val (.int 3)] [(.ref b3), (.ref b1), (.ref b1)]))) st12 ?_
  obtain ⟨_, _, ⟨T14, L14, k14, n14⟩, -, X14, ⟨Lc14, hQ14, l14, y14, z14⟩, st14⟩ := X12.specialBack hx (y := Y26) rfl hown (mvT hZ (ow hw 12 rfl)) (mvT hZ (ow hw 13 rfl)) (mvT hZ (ow hw 14 rfl)) (by decide) (backOf (W := 1) (rm_si1 l Z a0 hw [] b1 b3 (3 : Int32) k3 [(.int (nar .char c0)), (.int (nar .char c1)), (.int (nar .char c2))] [(.int (nar .byte ((nar .char c0)).toInt8.toInt32)), (.int (nar .byte ((nar .char c1)).toInt8.toInt32)), (.int (nar .byte ((nar .char c2)).toInt8.toInt32))] cs h12 n0 f13_0 f13_4 f13_6 f13_5 V12 f13_2 g_b1 (Ne.symm ne_b1_b3) (own_mk3 hc0 hc1 hc2) hcs) hZ (ow hw 14 rfl) (ow hw 11 rfl) (by decide) (by decide)) (g := (mkF m 80 #[.val (.ref ta), .val (.int 3)] [(.ref b3), (.ref b1), (.ref b1)])) rfl (by rw [hml]; rfl) (Steps.refl _) (a := b1) (argsL := [(.ref b3)]) (rest := [(.ref b1)]) (lenOf pd_22 rfl) rfl (Nat.le_of_eq rfl) (hb hby d2_80) (fun _ _ => ⟨rfl, e12, (by decide : 2 + 1 ≤ _), (by decide : 7 + 65 ≤ _)⟩)
  dsimp only [Pt.U, Pt.locs, Pt.cells, Pt.slots] at X14 l14 y14 z14 st14 hQ14
  subst l14 y14 z14
  obtain ⟨b14_0, k14_0, rfl, N14q, K14, sf14_0, o14_0, o14_1, o14_2, o14_3⟩ := hQ14
  have ne_ta_b14_0 : ta ≠ b14_0 := Nat.ne_of_lt (Nat.lt_of_lt_of_le f13_1.lt sf14_0)
  have ne_b1_b14_0 : b1 ≠ b14_0 := Nat.ne_of_lt (Nat.lt_of_lt_of_le f13_4.lt sf14_0)
  have ne_b3_b14_0 : b3 ≠ b14_0 := Nat.ne_of_lt (Nat.lt_of_lt_of_le V12.lt sf14_0)
  have g_b14_0 : n0 ≤ b14_0 := Nat.le_trans f13_0 sf14_0
  have sz_b14_0 : h0.size ≤ b14_0 := Nat.le_trans f13_3.1 sf14_0
  have f15_0 := Nat.le_trans f13_0 K14.1
  have f15_1 := f13_1.keep K14 (ninS ne_ta_b1 nin0)
  have f15_2 := Sta_keep f13_2 K14 (allS (Exa_ns f13_4) all0)
  have f15_3 := f13_3.trans K14 (allS (Or.inr sz_b1) all0)
  have f15_4 := f13_4.keep K14
  have f15_7 := V12.keep K14 (ninS (Ne.symm ne_b1_b3) nin0)
  have N14 := Fr.app N12 N14q
  refine Wp.back (U' := (T14.setTop (mkF m 83 #[.val (.ref ta), .val (.int 3)] [(.ref b1)]))) (fun t k => st14.trans k) ?_
  obtain ⟨fs, hr, hrun, hended, hW, hsame⟩ := X14.leave (v := (some (.ref b1))) (fun h => by rw [hret] at h; cases h)
  refine Wp.done (retOut X14 hx hret rfl (Or.inr (Or.inr (Or.inr (Or.inr ⟨rfl, rfl, rfl⟩)))) (hb hby d2_83) hr) hrun hended ⟨_, _, rfl, ?_, ⟨_, rfl⟩, hW, hsame.mono (by decide) (by decide)⟩
  show Q_tk3 Z ta kt c0 c1 c2 c3 c4 cs h0 n0 _ T14.heap _
  exact ⟨b1, b14_0, k14_0, rfl, N14, f15_3, sz_b1, sz_b14_0, o14_0, o14_1, o14_2, o14_3⟩
def Q_tk4 (Z : State) (ta : Addr) (kt : ClassId) (c0 : Int32) (c1 : Int32) (c2 : Int32) (c3 : Int32) (c4 : Int32) (cs : Int32) (h0 : Heap) (n0 : Nat) (v : Option Value) (h : Heap) (L : List Loc) : Prop := ∃ fr0 : Addr, ∃ fr1 : Addr, ∃ fk0 : ClassId, v = some (.ref fr0) ∧ Fr n0 L ∧ Keep h0 h [] ∧ h0.size ≤ fr0 ∧ h0.size ≤ fr1 ∧ Exa Z h fr0 "java/lang/String" ∧ Fld Z h fr0 "java/lang/String" "value" "[B" (.ref fr1) ∧ Fld Z h fr0 "java/lang/String" "coder" "B" (.int 0) ∧ Arv Z h fr1 fk0 .byte (4 : Int32) [(.int (nar .byte ((nar .char c0)).toInt8.toInt32)), (.int (nar .byte ((nar .char c1)).toInt8.toInt32)), (.int (nar .byte ((nar .char c2)).toInt8.toInt32)), (.int (nar .byte ((nar .char c3)).toInt8.toInt32))] (.int 0)
theorem d2_84 : decode method_4_code 84 = .ok (.iload_n 1, 1) := by decide +kernel
theorem d2_85 : decode method_4_code 85 = .ok (.iconst 4, 1) := by decide +kernel
theorem d2_86 : decode method_4_code 86 = .ok (.if_icmp .ne 38, 3) := by decide +kernel
theorem d2_89 : decode method_4_code 89 = .ok (.new 26, 3) := by decide +kernel
theorem d2_92 : decode method_4_code 92 = .ok (.dup, 1) := by decide +kernel
theorem d2_93 : decode method_4_code 93 = .ok (.iconst 4, 1) := by decide +kernel
theorem d2_94 : decode method_4_code 94 = .ok (.newarray .char, 2) := by decide +kernel
theorem d2_96 : decode method_4_code 96 = .ok (.dup, 1) := by decide +kernel
theorem d2_97 : decode method_4_code 97 = .ok (.iconst 0, 1) := by decide +kernel
theorem d2_98 : decode method_4_code 98 = .ok (.aload_n 0, 1) := by decide +kernel
theorem d2_99 : decode method_4_code 99 = .ok (.iconst 0, 1) := by decide +kernel
theorem d2_100 : decode method_4_code 100 = .ok (.caload, 1) := by decide +kernel
theorem d2_101 : decode method_4_code 101 = .ok (.castore, 1) := by decide +kernel
theorem d2_102 : decode method_4_code 102 = .ok (.dup, 1) := by decide +kernel
theorem d2_103 : decode method_4_code 103 = .ok (.iconst 1, 1) := by decide +kernel
theorem d2_104 : decode method_4_code 104 = .ok (.aload_n 0, 1) := by decide +kernel
theorem d2_105 : decode method_4_code 105 = .ok (.iconst 1, 1) := by decide +kernel
theorem d2_106 : decode method_4_code 106 = .ok (.caload, 1) := by decide +kernel
theorem d2_107 : decode method_4_code 107 = .ok (.castore, 1) := by decide +kernel
theorem d2_108 : decode method_4_code 108 = .ok (.dup, 1) := by decide +kernel
theorem d2_109 : decode method_4_code 109 = .ok (.iconst 2, 1) := by decide +kernel
theorem d2_110 : decode method_4_code 110 = .ok (.aload_n 0, 1) := by decide +kernel
theorem d2_111 : decode method_4_code 111 = .ok (.iconst 2, 1) := by decide +kernel
theorem d2_112 : decode method_4_code 112 = .ok (.caload, 1) := by decide +kernel
theorem d2_113 : decode method_4_code 113 = .ok (.castore, 1) := by decide +kernel
theorem d2_114 : decode method_4_code 114 = .ok (.dup, 1) := by decide +kernel
theorem d2_115 : decode method_4_code 115 = .ok (.iconst 3, 1) := by decide +kernel
theorem d2_116 : decode method_4_code 116 = .ok (.aload_n 0, 1) := by decide +kernel
theorem d2_117 : decode method_4_code 117 = .ok (.iconst 3, 1) := by decide +kernel
theorem d2_118 : decode method_4_code 118 = .ok (.caload, 1) := by decide +kernel
theorem d2_119 : decode method_4_code 119 = .ok (.castore, 1) := by decide +kernel
theorem d2_120 : decode method_4_code 120 = .ok (.invokespecial 32, 3) := by decide +kernel
theorem d2_123 : decode method_4_code 123 = .ok (.areturn, 1) := by decide +kernel
set_option maxRecDepth 65536 in
set_option maxHeartbeats 40000000 in
theorem rm_tk4 (l : Launch) (Z : State) (a0 : Array Value) (hw : ∀ d ∈ tables_1, d.before a0 Z = true) (ws : List Jvm.Cond) (ta : Addr) (kt : ClassId) (c0 : Int32) (c1 : Int32) (c2 : Int32) (c3 : Int32) (c4 : Int32) (cs : Int32) (h0 : Heap) (n0 : Nat) (Z0 : n0 ≤ h0.size) (H0 : Arv Z h0 ta kt .char (5 : Int32) [(.int c0), (.int c1), (.int c2), (.int c3), (.int c4)] (.int 0)) (H1 : Sta Z h0 "java/lang/String" "COMPACT_STRINGS" "Z" (.int cs)) (hc0 : ¬ (255 : Int32) < (nar .char c0)) (hc1 : ¬ (255 : Int32) < (nar .char c1)) (hc2 : ¬ (255 : Int32) < (nar .char c2)) (hc3 : ¬ (255 : Int32) < (nar .char c3)) (hcs : ¬ cs = (0 : Int32)) :
    Met l Z Y27 method_4_code 2 (some (.object "java/lang/String")) ws ({ frames := 4, cells := 3, slots := 73, locals := 66 } : Room) #[(.ref ta), (.int 4)] h0 (Q_tk4 Z ta kt c0 c1 c2 c3 c4 cs h0 n0) := by
  refine own_body (plainFor_of_name pn2) ?_
  intro p e s m below meth c s₁ hx hby hret hlk hml hZ hown hnm X0 e0
  have N0 := Fr.nil n0
  refine Wp.back (U' := (s₁.setTop (mkF m 0 #[.val (.ref ta), .val (.int 4)] []))) (fun t k => castTop (ef2_RI m ta (4 : Int32)) k) ?_
  refine Wp.back (U' := (s₁.setTop (mkF m 89 #[.val (.ref ta), .val (.int 4)] []))) (fun t k => XS.iloadN X0.here hx rfl (hb hby d2_0) rfl (XT.iconstV X0.here hx rfl 1 (hb hby d2_1) (by decide) (XS.icmpYes X0.here hx rfl (pc0 := 2) (pc' := 22) rfl (hb hby d2_2) rfl (feq (by decide)).2 (by decide) (by decide) (XS.iloadN X0.here hx rfl (hb hby d2_22) rfl (XT.iconstV X0.here hx rfl 2 (hb hby d2_23) (by decide) (XS.icmpYes X0.here hx rfl (pc0 := 24) (pc' := 50) rfl (hb hby d2_24) rfl (feq (by decide)).2 (by decide) (by decide) (XS.iloadN X0.here hx rfl (hb hby d2_50) rfl (XT.iconstV X0.here hx rfl 3 (hb hby d2_51) (by decide) (XS.icmpYes X0.here hx rfl (pc0 := 52) (pc' := 84) rfl (hb hby d2_52) rfl (feq (by decide)).2 (by decide) (by decide) (XS.iloadN X0.here hx rfl (hb hby d2_84) rfl (XT.iconstV X0.here hx rfl 4 (hb hby d2_85) (by decide) (XS.icmpNo X0.here hx rfl (hb hby d2_86) rfl (teq (by decide)).2 k)))))))))))) ?_
  obtain ⟨T1, h1, X1, e1, E1, A1, D1, -, st1⟩ := newO X0 hx hZ hown (ow hw 9 rfl) (ow hw 10 rfl) (ow hw 11 rfl) e0 (g := (mkF m 89 #[.val (.ref ta), .val (.int 4)] [])) rfl (hb hby d2_89) (by decide) (by decide)
  obtain ⟨b1, g1⟩ : ∃ z, z = h0.size := ⟨_, rfl⟩
  rw [← g1] at A1 D1 st1
  have ne_ta_b1 : ta ≠ b1 := Nat.ne_of_lt (Nat.lt_of_lt_of_le H0.lt (Nat.le_of_eq g1.symm))
  have g_b1 : n0 ≤ b1 := Nat.le_trans Z0 (Nat.le_of_eq g1.symm)
  have sz_b1 : h0.size ≤ b1 := Nat.le_trans (Keep.refl h0 []).1 (Nat.le_of_eq g1.symm)
  have f2_0 := Nat.le_trans Z0 E1.1
  have f2_1 := H0.ext E1
  have f2_2 := H1.ext E1
  have f2_3 := (Keep.refl h0 []).ext E1
  have F1_35 : Fld Z h1 b1 "java/lang/String" "coder" "B" (.int 0) := D1 (Or.inr (ow hw 35 rfl)) (ty := .byte) (by decide)
  have F1_37 : Fld Z h1 b1 "java/lang/String" "value" "[B" .null := D1 (Or.inr (ow hw 37 rfl)) (ty := (.array .byte)) (by decide)
  refine Wp.back (U' := (T1.setTop (mkF m 92 #[.val (.ref ta), .val (.int 4)] [(.ref b1)]))) st1 ?_
  refine Wp.back (U' := (T1.setTop (mkF m 94 #[.val (.ref ta), .val (.int 4)] [(.int 4), (.ref b1), (.ref b1)]))) (fun t k => XS.dup X1.here hx rfl (hb hby d2_92) rfl rfl (XT.iconstV X1.here hx rfl 4 (hb hby d2_93) (by decide) k)) ?_
  obtain ⟨T3, h3, k3, X3, e3, E3, A3, st3⟩ := newP X1 hx hZ (ow hw 0 rfl) e1 (g := (mkF m 94 #[.val (.ref ta), .val (.int 4)] [(.int 4), (.ref b1), (.ref b1)])) rfl (hb hby d2_94) rfl (by decide) (cap := 4) (by decide) (by decide) (by decide) (by decide)
  obtain ⟨b3, g3⟩ : ∃ z, z = h1.size := ⟨_, rfl⟩
  rw [← g3] at A3 st3
  have ne_ta_b3 : ta ≠ b3 := Nat.ne_of_lt (Nat.lt_of_lt_of_le f2_1.lt (Nat.le_of_eq g3.symm))
  have ne_b1_b3 : b1 ≠ b3 := Nat.ne_of_lt (Nat.lt_of_lt_of_le A1.lt (Nat.le_of_eq g3.symm))
  have g_b3 : n0 ≤ b3 := Nat.le_trans f2_0 (Nat.le_of_eq g3.symm)
  have sz_b3 : h0.size ≤ b3 := Nat.le_trans f2_3.1 (Nat.le_of_eq g3.symm)
  have f4_0 := Nat.le_trans f2_0 E3.1
  have f4_1 := f2_1.ext E3
  have f4_2 := f2_2.ext E3
  have f4_3 := f2_3.ext E3
  have f4_4 := A1.ext E3
  have f4_5 := F1_35.ext E3
  have f4_6 := F1_37.ext E3
  have V3 : Arv Z h3 b3 k3 .char (4 : Int32) [(.int 0), (.int 0), (.int 0), (.int 0)] (.int 0) := (Arv.new A3 (by decide)).pad (pad_rep [] (.int 0) 4)
  refine Wp.back (U' := (T3.setTop (mkF m 96 #[.val (.ref ta), .val (.int 4)] [(.ref b3), (.ref b1), (.ref b1)]))) st3 ?_
  refine Wp.back (U' := (T3.setTop (mkF m 100 #[.val (.ref ta), .val (.int 4)] [(.int 0), (.ref ta), (.int 0), (.ref b3), (.ref b3), (.ref b1), (.ref b1)]))) (fun t k => XS.dup X3.here hx rfl (hb hby d2_96) rfl rfl (XT.iconstV X3.here hx rfl 0 (hb hby d2_97) (by decide) (XS.aloadN X3.here hx rfl (hb hby d2_98) rfl rfl (XT.iconstV X3.here hx rfl 0 (hb hby d2_99) (by decide) k)))) ?_
  have vq5 := f4_1
  obtain ⟨cl5, Ar5, qa5, qs5, qn5, qh5, qg5⟩ := vq5
  have hin5 : ¬ ((0 : Int32) < 0 ∨ cl5.slots.size ≤ ((0 : Int32)).toNatClampNeg) := inb_of qs5 ⟨by decide, by decide⟩
  have hat5 : cl5.slots[((0 : Int32)).toNatClampNeg]? = some (.int c0) := Has.at qh5 hin5 rfl
  refine Wp.back (U' := (T3.setTop (mkF m 101 #[.val (.ref ta), .val (.int 4)] [(.int c0), (.int 0), (.ref b3), (.ref b3), (.ref b1), (.ref b1)]))) (fun t k => X3.caload hx (j := (0 : Int32)) (v := (.int c0)) (by rw [e3]; exact Ar5.1) (State.isArrayOf_alike hZ.alike Ar5.2.1) Ar5.2.2 hin5 hat5 (g := (mkF m 100 #[.val (.ref ta), .val (.int 4)] [(.int 0), (.ref ta), (.int 0), (.ref b3), (.ref b3), (.ref b1), (.ref b1)])) rfl rfl (hb hby d2_100) t k) ?_
  have vq6 := V3
  obtain ⟨cl6, Ar6, qa6, qs6, qn6, qh6, qg6⟩ := vq6
  have hin6 : ¬ ((0 : Int32) < 0 ∨ cl6.slots.size ≤ ((0 : Int32)).toNatClampNeg) := inb_of qs6 ⟨by decide, by decide⟩
  obtain ⟨T6, h6, X6, e6, W6, st6⟩ := stC X3 hx hZ e3 Ar6 (j := (0 : Int32)) hin6 (g := (mkF m 101 #[.val (.ref ta), .val (.int 4)] [(.int c0), (.int 0), (.ref b3), (.ref b3), (.ref b1), (.ref b1)])) rfl rfl (hb hby d2_101)
  have V6 : Arv Z h6 b3 k3 .char (4 : Int32) [(.int (nar .char c0)), (.int 0), (.int 0), (.int 0)] (.int 0) := Arv.set Ar6 qa6 qs6 qn6 qh6 qg6 (fits_nar_char c0) W6 0 rfl (Nat.le_of_ble_eq_true rfl)
  have f7_0 := Nat.le_trans f4_0 (Keep.of_wr W6).1
  have f7_1 := f4_1.other W6 ne_ta_b3
  have f7_2 := f4_2.wr W6
  have f7_3 := f4_3.wr W6 (Or.inr sz_b3)
  have f7_4 := f4_4.wr W6
  have f7_5 := f4_5.other W6 (Or.inl ne_b1_b3)
  have f7_6 := f4_6.other W6 (Or.inl ne_b1_b3)
  have N6 := Fr.snoc X6 N0 g_b3
  refine Wp.back (U' := (T6.setTop (mkF m 102 #[.val (.ref ta), .val (.int 4)] [(.ref b3), (.ref b1), (.ref b1)]))) st6 ?_
  refine Wp.back (U' := (T6.setTop (mkF m 106 #[.val (.ref ta), .val (.int 4)] [(.int 1), (.ref ta), (.int 1), (.ref b3), (.ref b3), (.ref b1), (.ref b1)]))) (fun t k => XS.dup X6.here hx rfl (hb hby d2_102) rfl rfl (XT.iconstV X6.here hx rfl 1 (hb hby d2_103) (by decide) (XS.aloadN X6.here hx rfl (hb hby d2_104) rfl rfl (XT.iconstV X6.here hx rfl 1 (hb hby d2_105) (by decide) k)))) ?_
  have vq8 := f7_1
  obtain ⟨cl8, Ar8, qa8, qs8, qn8, qh8, qg8⟩ := vq8
  have hin8 : ¬ ((1 : Int32) < 0 ∨ cl8.slots.size ≤ ((1 : Int32)).toNatClampNeg) := inb_of qs8 ⟨by decide, by decide⟩
  have hat8 : cl8.slots[((1 : Int32)).toNatClampNeg]? = some (.int c1) := Has.at qh8 hin8 rfl
  refine Wp.back (U' := (T6.setTop (mkF m 107 #[.val (.ref ta), .val (.int 4)] [(.int c1), (.int 1), (.ref b3), (.ref b3), (.ref b1), (.ref b1)]))) (fun t k => X6.caload hx (j := (1 : Int32)) (v := (.int c1)) (by rw [e6]; exact Ar8.1) (State.isArrayOf_alike hZ.alike Ar8.2.1) Ar8.2.2 hin8 hat8 (g := (mkF m 106 #[.val (.ref ta), .val (.int 4)] [(.int 1), (.ref ta), (.int 1), (.ref b3), (.ref b3), (.ref b1), (.ref b1)])) rfl rfl (hb hby d2_106) t k) ?_
  have vq9 := V6
  obtain ⟨cl9, Ar9, qa9, qs9, qn9, qh9, qg9⟩ := vq9
  have hin9 : ¬ ((1 : Int32) < 0 ∨ cl9.slots.size ≤ ((1 : Int32)).toNatClampNeg) := inb_of qs9 ⟨by decide, by decide⟩
  obtain ⟨T9, h9, X9, e9, W9, st9⟩ := stC X6 hx hZ e6 Ar9 (j := (1 : Int32)) hin9 (g := (mkF m 107 #[.val (.ref ta), .val (.int 4)] [(.int c1), (.int 1), (.ref b3), (.ref b3), (.ref b1), (.ref b1)])) rfl rfl (hb hby d2_107)
  have V9 : Arv Z h9 b3 k3 .char (4 : Int32) [(.int (nar .char c0)), (.int (nar .char c1)), (.int 0), (.int 0)] (.int 0) := Arv.set Ar9 qa9 qs9 qn9 qh9 qg9 (fits_nar_char c1) W9 1 rfl (Nat.le_of_ble_eq_true rfl)
  have f10_0 := Nat.le_trans f7_0 (Keep.of_wr W9).1
  have f10_1 := f7_1.other W9 ne_ta_b3
  have f10_2 := f7_2.wr W9
  have f10_3 := f7_3.wr W9 (Or.inr sz_b3)
  have f10_4 := f7_4.wr W9
  have f10_5 := f7_5.other W9 (Or.inl ne_b1_b3)
  have f10_6 := f7_6.other W9 (Or.inl ne_b1_b3)
  have N9 := Fr.snoc X9 N6 g_b3
  refine Wp.back (U' := (T9.setTop (mkF m 108 #[.val (.ref ta), .val (.int 4)] [(.ref b3), (.ref b1), (.ref b1)]))) st9 ?_
  refine Wp.back (U' := (T9.setTop (mkF m 112 #[.val (.ref ta), .val (.int 4)] [(.int 2), (.ref ta), (.int 2), (.ref b3), (.ref b3), (.ref b1), (.ref b1)]))) (fun t k => XS.dup X9.here hx rfl (hb hby d2_108) rfl rfl (XT.iconstV X9.here hx rfl 2 (hb hby d2_109) (by decide) (XS.aloadN X9.here hx rfl (hb hby d2_110) rfl rfl (XT.iconstV X9.here hx rfl 2 (hb hby d2_111) (by decide) k)))) ?_
  have vq11 := f10_1
  obtain ⟨cl11, Ar11, qa11, qs11, qn11, qh11, qg11⟩ := vq11
  have hin11 : ¬ ((2 : Int32) < 0 ∨ cl11.slots.size ≤ ((2 : Int32)).toNatClampNeg) := inb_of qs11 ⟨by decide, by decide⟩
  have hat11 : cl11.slots[((2 : Int32)).toNatClampNeg]? = some (.int c2) := Has.at qh11 hin11 rfl
  refine Wp.back (U' := (T9.setTop (mkF m 113 #[.val (.ref ta), .val (.int 4)] [(.int c2), (.int 2), (.ref b3), (.ref b3), (.ref b1), (.ref b1)]))) (fun t k => X9.caload hx (j := (2 : Int32)) (v := (.int c2)) (by rw [e9]; exact Ar11.1) (State.isArrayOf_alike hZ.alike Ar11.2.1) Ar11.2.2 hin11 hat11 (g := (mkF m 112 #[.val (.ref ta), .val (.int 4)] [(.int 2), (.ref ta), (.int 2), (.ref b3), (.ref b3), (.ref b1), (.ref b1)])) rfl rfl (hb hby d2_112) t k) ?_
  have vq12 := V9
  obtain ⟨cl12, Ar12, qa12, qs12, qn12, qh12, qg12⟩ := vq12
  have hin12 : ¬ ((2 : Int32) < 0 ∨ cl12.slots.size ≤ ((2 : Int32)).toNatClampNeg) := inb_of qs12 ⟨by decide, by decide⟩
  obtain ⟨T12, h12, X12, e12, W12, st12⟩ := stC X9 hx hZ e9 Ar12 (j := (2 : Int32)) hin12 (g := (mkF m 113 #[.val (.ref ta), .val (.int 4)] [(.int c2), (.int 2), (.ref b3), (.ref b3), (.ref b1), (.ref b1)])) rfl rfl (hb hby d2_113)
  have V12 : Arv Z h12 b3 k3 .char (4 : Int32) [(.int (nar .char c0)), (.int (nar .char c1)), (.int (nar .char c2)), (.int 0)] (.int 0) := Arv.set Ar12 qa12 qs12 qn12 qh12 qg12 (fits_nar_char c2) W12 2 rfl (Nat.le_of_ble_eq_true rfl)
  have f13_0 := Nat.le_trans f10_0 (Keep.of_wr W12).1
  have f13_1 := f10_1.other W12 ne_ta_b3
  have f13_2 := f10_2.wr W12
  have f13_3 := f10_3.wr W12 (Or.inr sz_b3)
  have f13_4 := f10_4.wr W12
  have f13_5 := f10_5.other W12 (Or.inl ne_b1_b3)
  have f13_6 := f10_6.other W12 (Or.inl ne_b1_b3)
  have N12 := Fr.snoc X12 N9 g_b3
  refine Wp.back (U' := (T12.setTop (mkF m 114 #[.val (.ref ta), .val (.int 4)] [(.ref b3), (.ref b1), (.ref b1)]))) st12 ?_
  refine Wp.back (U' := (T12.setTop (mkF m 118 #[.val (.ref ta), .val (.int 4)] [(.int 3), (.ref ta), (.int 3), (.ref b3), (.ref b3), (.ref b1), (.ref b1)]))) (fun t k => XS.dup X12.here hx rfl (hb hby d2_114) rfl rfl (XT.iconstV X12.here hx rfl 3 (hb hby d2_115) (by decide) (XS.aloadN X12.here hx rfl (hb hby d2_116) rfl rfl (XT.iconstV X12.here hx rfl 3 (hb hby d2_117) (by decide) k)))) ?_
  have vq14 := f13_1
  obtain ⟨cl14, Ar14, qa14, qs14, qn14, qh14, qg14⟩ := vq14
  have hin14 : ¬ ((3 : Int32) < 0 ∨ cl14.slots.size ≤ ((3 : Int32)).toNatClampNeg) := inb_of qs14 ⟨by decide, by decide⟩
  have hat14 : cl14.slots[((3 : Int32)).toNatClampNeg]? = some (.int c3) := Has.at qh14 hin14 rfl
  refine Wp.back (U' := (T12.setTop (mkF m 119 #[.val (.ref ta), .val (.int 4)] [(.int c3), (.int 3), (.ref b3), (.ref b3), (.ref b1), (.ref b1)]))) (fun t k => X12.caload hx (j := (3 : Int32)) (v := (.int c3)) (by rw [e12]; exact Ar14.1) (State.isArrayOf_alike hZ.alike Ar14.2.1) Ar14.2.2 hin14 hat14 (g := (mkF m 118 #[.val (.ref ta), .val (.int 4)] [(.int 3), (.ref ta), (.int 3), (.ref b3), (.ref b3), (.ref b1), (.ref b1)])) rfl rfl (hb hby d2_118) t k) ?_
  have vq15 := V12
  obtain ⟨cl15, Ar15, qa15, qs15, qn15, qh15, qg15⟩ := vq15
  have hin15 : ¬ ((3 : Int32) < 0 ∨ cl15.slots.size ≤ ((3 : Int32)).toNatClampNeg) := inb_of qs15 ⟨by decide, by decide⟩
  obtain ⟨T15, h15, X15, e15, W15, st15⟩ := stC X12 hx hZ e12 Ar15 (j := (3 : Int32)) hin15 (g := (mkF m 119 #[.val (.ref ta), .val (.int 4)] [(.int c3), (.int 3), (.ref b3), (.ref b3), (.ref b1), (.ref b1)])) rfl rfl (hb hby d2_119)
  have V15 : Arv Z h15 b3 k3 .char (4 : Int32) [(.int (nar .char c0)), (.int (nar .char c1)), (.int (nar .char c2)), (.int (nar .char c3))] (.int 0) := Arv.set Ar15 qa15 qs15 qn15 qh15 qg15 (fits_nar_char c3) W15 3 rfl (Nat.le_of_ble_eq_true rfl)
  have f16_0 := Nat.le_trans f13_0 (Keep.of_wr W15).1
  have f16_1 := f13_1.other W15 ne_ta_b3
  have f16_2 := f13_2.wr W15
  have f16_3 := f13_3.wr W15 (Or.inr sz_b3)
  have f16_4 := f13_4.wr W15
  have f16_5 := f13_5.other W15 (Or.inl ne_b1_b3)
  have f16_6 := f13_6.other W15 (Or.inl ne_b1_b3)
  have N15 := Fr.snoc X15 N12 g_b3
  refine Wp.back (U' := (T15.setTop (mkF m 120 #[.val (.ref ta), .val (.int 4)] [(.ref b3), (.ref b1), (.ref b1)]))) st15 ?_
  obtain ⟨_, _, ⟨T17, L17, k17, n17⟩, -, X17, ⟨Lc17, hQ17, l17, y17, z17⟩, st17⟩ := X15.specialBack hx (y := Y26) rfl hown (mvT hZ (ow hw 12 rfl)) (mvT hZ (ow hw 13 rfl)) (mvT hZ (ow hw 14 rfl)) (by decide) (backOf (W := 1) (rm_si1 l Z a0 hw [] b1 b3 (4 : Int32) k3 [(.int (nar .char c0)), (.int (nar .char c1)), (.int (nar .char c2)), (.int (nar .char c3))] [(.int (nar .byte ((nar .char c0)).toInt8.toInt32)), (.int (nar .byte ((nar .char c1)).toInt8.toInt32)), (.int (nar .byte ((nar .char c2)).toInt8.toInt32)), (.int (nar .byte ((nar .char c3)).toInt8.toInt32))] cs h15 n0 f16_0 f16_4 f16_6 f16_5 V15 f16_2 g_b1 (Ne.symm ne_b1_b3) (own_mk4 hc0 hc1 hc2 hc3) hcs) hZ (ow hw 14 rfl) (ow hw 11 rfl) (by decide) (by decide)) (g := (mkF m 120 #[.val (.ref ta), .val (.int 4)] [(.ref b3), (.ref b1), (.ref b1)])) rfl (by rw [hml]; rfl) (Steps.refl _) (a := b1) (argsL := [(.ref b3)]) (rest := [(.ref b1)]) (lenOf pd_22 rfl) rfl (Nat.le_of_eq rfl) (hb hby d2_120) (fun _ _ => ⟨rfl, e15, (by decide : 2 + 1 ≤ _), (by decide : 8 + 65 ≤ _)⟩)
  dsimp only [Pt.U, Pt.locs, Pt.cells, Pt.slots] at X17 l17 y17 z17 st17 hQ17
  subst l17 y17 z17
  obtain ⟨b17_0, k17_0, rfl, N17q, K17, sf17_0, o17_0, o17_1, o17_2, o17_3⟩ := hQ17
  have ne_ta_b17_0 : ta ≠ b17_0 := Nat.ne_of_lt (Nat.lt_of_lt_of_le f16_1.lt sf17_0)
  have ne_b1_b17_0 : b1 ≠ b17_0 := Nat.ne_of_lt (Nat.lt_of_lt_of_le f16_4.lt sf17_0)
  have ne_b3_b17_0 : b3 ≠ b17_0 := Nat.ne_of_lt (Nat.lt_of_lt_of_le V15.lt sf17_0)
  have g_b17_0 : n0 ≤ b17_0 := Nat.le_trans f16_0 sf17_0
  have sz_b17_0 : h0.size ≤ b17_0 := Nat.le_trans f16_3.1 sf17_0
  have f18_0 := Nat.le_trans f16_0 K17.1
  have f18_1 := f16_1.keep K17 (ninS ne_ta_b1 nin0)
  have f18_2 := Sta_keep f16_2 K17 (allS (Exa_ns f16_4) all0)
  have f18_3 := f16_3.trans K17 (allS (Or.inr sz_b1) all0)
  have f18_4 := f16_4.keep K17
  have f18_7 := V15.keep K17 (ninS (Ne.symm ne_b1_b3) nin0)
  have N17 := Fr.app N15 N17q
  refine Wp.back (U' := (T17.setTop (mkF m 123 #[.val (.ref ta), .val (.int 4)] [(.ref b1)]))) (fun t k => st17.trans k) ?_
  obtain ⟨fs, hr, hrun, hended, hW, hsame⟩ := X17.leave (v := (some (.ref b1))) (fun h => by rw [hret] at h; cases h)
  refine Wp.done (retOut X17 hx hret rfl (Or.inr (Or.inr (Or.inr (Or.inr ⟨rfl, rfl, rfl⟩)))) (hb hby d2_123) hr) hrun hended ⟨_, _, rfl, ?_, ⟨_, rfl⟩, hW, hsame.mono (by decide) (by decide)⟩
  show Q_tk4 Z ta kt c0 c1 c2 c3 c4 cs h0 n0 _ T17.heap _
  exact ⟨b1, b17_0, k17_0, rfl, N17, f18_3, sz_b1, sz_b17_0, o17_0, o17_1, o17_2, o17_3⟩
def Q_tk5 (Z : State) (ta : Addr) (kt : ClassId) (c0 : Int32) (c1 : Int32) (c2 : Int32) (c3 : Int32) (c4 : Int32) (cs : Int32) (h0 : Heap) (n0 : Nat) (v : Option Value) (h : Heap) (L : List Loc) : Prop := ∃ fr0 : Addr, ∃ fr1 : Addr, ∃ fk0 : ClassId, v = some (.ref fr0) ∧ Fr n0 L ∧ Keep h0 h [] ∧ h0.size ≤ fr0 ∧ h0.size ≤ fr1 ∧ Exa Z h fr0 "java/lang/String" ∧ Fld Z h fr0 "java/lang/String" "value" "[B" (.ref fr1) ∧ Fld Z h fr0 "java/lang/String" "coder" "B" (.int 0) ∧ Arv Z h fr1 fk0 .byte (5 : Int32) [(.int (nar .byte ((nar .char c0)).toInt8.toInt32)), (.int (nar .byte ((nar .char c1)).toInt8.toInt32)), (.int (nar .byte ((nar .char c2)).toInt8.toInt32)), (.int (nar .byte ((nar .char c3)).toInt8.toInt32)), (.int (nar .byte ((nar .char c4)).toInt8.toInt32))] (.int 0)
theorem d2_124 : decode method_4_code 124 = .ok (.new 26, 3) := by decide +kernel
theorem d2_127 : decode method_4_code 127 = .ok (.dup, 1) := by decide +kernel
theorem d2_128 : decode method_4_code 128 = .ok (.iconst 5, 1) := by decide +kernel
theorem d2_129 : decode method_4_code 129 = .ok (.newarray .char, 2) := by decide +kernel
theorem d2_131 : decode method_4_code 131 = .ok (.dup, 1) := by decide +kernel
theorem d2_132 : decode method_4_code 132 = .ok (.iconst 0, 1) := by decide +kernel
theorem d2_133 : decode method_4_code 133 = .ok (.aload_n 0, 1) := by decide +kernel
theorem d2_134 : decode method_4_code 134 = .ok (.iconst 0, 1) := by decide +kernel
theorem d2_135 : decode method_4_code 135 = .ok (.caload, 1) := by decide +kernel
theorem d2_136 : decode method_4_code 136 = .ok (.castore, 1) := by decide +kernel
theorem d2_137 : decode method_4_code 137 = .ok (.dup, 1) := by decide +kernel
theorem d2_138 : decode method_4_code 138 = .ok (.iconst 1, 1) := by decide +kernel
theorem d2_139 : decode method_4_code 139 = .ok (.aload_n 0, 1) := by decide +kernel
theorem d2_140 : decode method_4_code 140 = .ok (.iconst 1, 1) := by decide +kernel
theorem d2_141 : decode method_4_code 141 = .ok (.caload, 1) := by decide +kernel
theorem d2_142 : decode method_4_code 142 = .ok (.castore, 1) := by decide +kernel
theorem d2_143 : decode method_4_code 143 = .ok (.dup, 1) := by decide +kernel
theorem d2_144 : decode method_4_code 144 = .ok (.iconst 2, 1) := by decide +kernel
theorem d2_145 : decode method_4_code 145 = .ok (.aload_n 0, 1) := by decide +kernel
theorem d2_146 : decode method_4_code 146 = .ok (.iconst 2, 1) := by decide +kernel
theorem d2_147 : decode method_4_code 147 = .ok (.caload, 1) := by decide +kernel
theorem d2_148 : decode method_4_code 148 = .ok (.castore, 1) := by decide +kernel
theorem d2_149 : decode method_4_code 149 = .ok (.dup, 1) := by decide +kernel
theorem d2_150 : decode method_4_code 150 = .ok (.iconst 3, 1) := by decide +kernel
theorem d2_151 : decode method_4_code 151 = .ok (.aload_n 0, 1) := by decide +kernel
theorem d2_152 : decode method_4_code 152 = .ok (.iconst 3, 1) := by decide +kernel
theorem d2_153 : decode method_4_code 153 = .ok (.caload, 1) := by decide +kernel
theorem d2_154 : decode method_4_code 154 = .ok (.castore, 1) := by decide +kernel
theorem d2_155 : decode method_4_code 155 = .ok (.dup, 1) := by decide +kernel
theorem d2_156 : decode method_4_code 156 = .ok (.iconst 4, 1) := by decide +kernel
theorem d2_157 : decode method_4_code 157 = .ok (.aload_n 0, 1) := by decide +kernel
theorem d2_158 : decode method_4_code 158 = .ok (.iconst 4, 1) := by decide +kernel
theorem d2_159 : decode method_4_code 159 = .ok (.caload, 1) := by decide +kernel
theorem d2_160 : decode method_4_code 160 = .ok (.castore, 1) := by decide +kernel
theorem d2_161 : decode method_4_code 161 = .ok (.invokespecial 32, 3) := by decide +kernel
theorem d2_164 : decode method_4_code 164 = .ok (.areturn, 1) := by decide +kernel
set_option maxRecDepth 65536 in
set_option maxHeartbeats 40000000 in
theorem rm_tk5 (l : Launch) (Z : State) (a0 : Array Value) (hw : ∀ d ∈ tables_1, d.before a0 Z = true) (ws : List Jvm.Cond) (ta : Addr) (kt : ClassId) (c0 : Int32) (c1 : Int32) (c2 : Int32) (c3 : Int32) (c4 : Int32) (cs : Int32) (h0 : Heap) (n0 : Nat) (Z0 : n0 ≤ h0.size) (H0 : Arv Z h0 ta kt .char (5 : Int32) [(.int c0), (.int c1), (.int c2), (.int c3), (.int c4)] (.int 0)) (H1 : Sta Z h0 "java/lang/String" "COMPACT_STRINGS" "Z" (.int cs)) (hc0 : ¬ (255 : Int32) < (nar .char c0)) (hc1 : ¬ (255 : Int32) < (nar .char c1)) (hc2 : ¬ (255 : Int32) < (nar .char c2)) (hc3 : ¬ (255 : Int32) < (nar .char c3)) (hc4 : ¬ (255 : Int32) < (nar .char c4)) (hcs : ¬ cs = (0 : Int32)) :
    Met l Z Y27 method_4_code 2 (some (.object "java/lang/String")) ws ({ frames := 4, cells := 3, slots := 74, locals := 66 } : Room) #[(.ref ta), (.int 5)] h0 (Q_tk5 Z ta kt c0 c1 c2 c3 c4 cs h0 n0) := by
  refine own_body (plainFor_of_name pn2) ?_
  intro p e s m below meth c s₁ hx hby hret hlk hml hZ hown hnm X0 e0
  have N0 := Fr.nil n0
  refine Wp.back (U' := (s₁.setTop (mkF m 0 #[.val (.ref ta), .val (.int 5)] []))) (fun t k => castTop (ef2_RI m ta (5 : Int32)) k) ?_
  refine Wp.back (U' := (s₁.setTop (mkF m 124 #[.val (.ref ta), .val (.int 5)] []))) (fun t k => XS.iloadN X0.here hx rfl (hb hby d2_0) rfl (XT.iconstV X0.here hx rfl 1 (hb hby d2_1) (by decide) (XS.icmpYes X0.here hx rfl (pc0 := 2) (pc' := 22) rfl (hb hby d2_2) rfl (feq (by decide)).2 (by decide) (by decide) (XS.iloadN X0.here hx rfl (hb hby d2_22) rfl (XT.iconstV X0.here hx rfl 2 (hb hby d2_23) (by decide) (XS.icmpYes X0.here hx rfl (pc0 := 24) (pc' := 50) rfl (hb hby d2_24) rfl (feq (by decide)).2 (by decide) (by decide) (XS.iloadN X0.here hx rfl (hb hby d2_50) rfl (XT.iconstV X0.here hx rfl 3 (hb hby d2_51) (by decide) (XS.icmpYes X0.here hx rfl (pc0 := 52) (pc' := 84) rfl (hb hby d2_52) rfl (feq (by decide)).2 (by decide) (by decide) (XS.iloadN X0.here hx rfl (hb hby d2_84) rfl (XT.iconstV X0.here hx rfl 4 (hb hby d2_85) (by decide) (XS.icmpYes X0.here hx rfl (pc0 := 86) (pc' := 124) rfl (hb hby d2_86) rfl (feq (by decide)).2 (by decide) (by decide) k)))))))))))) ?_
  obtain ⟨T1, h1, X1, e1, E1, A1, D1, -, st1⟩ := newO X0 hx hZ hown (ow hw 9 rfl) (ow hw 10 rfl) (ow hw 11 rfl) e0 (g := (mkF m 124 #[.val (.ref ta), .val (.int 5)] [])) rfl (hb hby d2_124) (by decide) (by decide)
  obtain ⟨b1, g1⟩ : ∃ z, z = h0.size := ⟨_, rfl⟩
  rw [← g1] at A1 D1 st1
  have ne_ta_b1 : ta ≠ b1 := Nat.ne_of_lt (Nat.lt_of_lt_of_le H0.lt (Nat.le_of_eq g1.symm))
  have g_b1 : n0 ≤ b1 := Nat.le_trans Z0 (Nat.le_of_eq g1.symm)
  have sz_b1 : h0.size ≤ b1 := Nat.le_trans (Keep.refl h0 []).1 (Nat.le_of_eq g1.symm)
  have f2_0 := Nat.le_trans Z0 E1.1
  have f2_1 := H0.ext E1
  have f2_2 := H1.ext E1
  have f2_3 := (Keep.refl h0 []).ext E1
  have F1_35 : Fld Z h1 b1 "java/lang/String" "coder" "B" (.int 0) := D1 (Or.inr (ow hw 35 rfl)) (ty := .byte) (by decide)
  have F1_37 : Fld Z h1 b1 "java/lang/String" "value" "[B" .null := D1 (Or.inr (ow hw 37 rfl)) (ty := (.array .byte)) (by decide)
  refine Wp.back (U' := (T1.setTop (mkF m 127 #[.val (.ref ta), .val (.int 5)] [(.ref b1)]))) st1 ?_
  refine Wp.back (U' := (T1.setTop (mkF m 129 #[.val (.ref ta), .val (.int 5)] [(.int 5), (.ref b1), (.ref b1)]))) (fun t k => XS.dup X1.here hx rfl (hb hby d2_127) rfl rfl (XT.iconstV X1.here hx rfl 5 (hb hby d2_128) (by decide) k)) ?_
  obtain ⟨T3, h3, k3, X3, e3, E3, A3, st3⟩ := newP X1 hx hZ (ow hw 0 rfl) e1 (g := (mkF m 129 #[.val (.ref ta), .val (.int 5)] [(.int 5), (.ref b1), (.ref b1)])) rfl (hb hby d2_129) rfl (by decide) (cap := 5) (by decide) (by decide) (by decide) (by decide)
  obtain ⟨b3, g3⟩ : ∃ z, z = h1.size := ⟨_, rfl⟩
  rw [← g3] at A3 st3
  have ne_ta_b3 : ta ≠ b3 := Nat.ne_of_lt (Nat.lt_of_lt_of_le f2_1.lt (Nat.le_of_eq g3.symm))
  have ne_b1_b3 : b1 ≠ b3 := Nat.ne_of_lt (Nat.lt_of_lt_of_le A1.lt (Nat.le_of_eq g3.symm))
  have g_b3 : n0 ≤ b3 := Nat.le_trans f2_0 (Nat.le_of_eq g3.symm)
  have sz_b3 : h0.size ≤ b3 := Nat.le_trans f2_3.1 (Nat.le_of_eq g3.symm)
  have f4_0 := Nat.le_trans f2_0 E3.1
  have f4_1 := f2_1.ext E3
  have f4_2 := f2_2.ext E3
  have f4_3 := f2_3.ext E3
  have f4_4 := A1.ext E3
  have f4_5 := F1_35.ext E3
  have f4_6 := F1_37.ext E3
  have V3 : Arv Z h3 b3 k3 .char (5 : Int32) [(.int 0), (.int 0), (.int 0), (.int 0), (.int 0)] (.int 0) := (Arv.new A3 (by decide)).pad (pad_rep [] (.int 0) 5)
  refine Wp.back (U' := (T3.setTop (mkF m 131 #[.val (.ref ta), .val (.int 5)] [(.ref b3), (.ref b1), (.ref b1)]))) st3 ?_
  refine Wp.back (U' := (T3.setTop (mkF m 135 #[.val (.ref ta), .val (.int 5)] [(.int 0), (.ref ta), (.int 0), (.ref b3), (.ref b3), (.ref b1), (.ref b1)]))) (fun t k => XS.dup X3.here hx rfl (hb hby d2_131) rfl rfl (XT.iconstV X3.here hx rfl 0 (hb hby d2_132) (by decide) (XS.aloadN X3.here hx rfl (hb hby d2_133) rfl rfl (XT.iconstV X3.here hx rfl 0 (hb hby d2_134) (by decide) k)))) ?_
  have vq5 := f4_1
  obtain ⟨cl5, Ar5, qa5, qs5, qn5, qh5, qg5⟩ := vq5
  have hin5 : ¬ ((0 : Int32) < 0 ∨ cl5.slots.size ≤ ((0 : Int32)).toNatClampNeg) := inb_of qs5 ⟨by decide, by decide⟩
  have hat5 : cl5.slots[((0 : Int32)).toNatClampNeg]? = some (.int c0) := Has.at qh5 hin5 rfl
  refine Wp.back (U' := (T3.setTop (mkF m 136 #[.val (.ref ta), .val (.int 5)] [(.int c0), (.int 0), (.ref b3), (.ref b3), (.ref b1), (.ref b1)]))) (fun t k => X3.caload hx (j := (0 : Int32)) (v := (.int c0)) (by rw [e3]; exact Ar5.1) (State.isArrayOf_alike hZ.alike Ar5.2.1) Ar5.2.2 hin5 hat5 (g := (mkF m 135 #[.val (.ref ta), .val (.int 5)] [(.int 0), (.ref ta), (.int 0), (.ref b3), (.ref b3), (.ref b1), (.ref b1)])) rfl rfl (hb hby d2_135) t k) ?_
  have vq6 := V3
  obtain ⟨cl6, Ar6, qa6, qs6, qn6, qh6, qg6⟩ := vq6
  have hin6 : ¬ ((0 : Int32) < 0 ∨ cl6.slots.size ≤ ((0 : Int32)).toNatClampNeg) := inb_of qs6 ⟨by decide, by decide⟩
  obtain ⟨T6, h6, X6, e6, W6, st6⟩ := stC X3 hx hZ e3 Ar6 (j := (0 : Int32)) hin6 (g := (mkF m 136 #[.val (.ref ta), .val (.int 5)] [(.int c0), (.int 0), (.ref b3), (.ref b3), (.ref b1), (.ref b1)])) rfl rfl (hb hby d2_136)
  have V6 : Arv Z h6 b3 k3 .char (5 : Int32) [(.int (nar .char c0)), (.int 0), (.int 0), (.int 0), (.int 0)] (.int 0) := Arv.set Ar6 qa6 qs6 qn6 qh6 qg6 (fits_nar_char c0) W6 0 rfl (Nat.le_of_ble_eq_true rfl)
  have f7_0 := Nat.le_trans f4_0 (Keep.of_wr W6).1
  have f7_1 := f4_1.other W6 ne_ta_b3
  have f7_2 := f4_2.wr W6
  have f7_3 := f4_3.wr W6 (Or.inr sz_b3)
  have f7_4 := f4_4.wr W6
  have f7_5 := f4_5.other W6 (Or.inl ne_b1_b3)
  have f7_6 := f4_6.other W6 (Or.inl ne_b1_b3)
  have N6 := Fr.snoc X6 N0 g_b3
  refine Wp.back (U' := (T6.setTop (mkF m 137 #[.val (.ref ta), .val (.int 5)] [(.ref b3), (.ref b1), (.ref b1)]))) st6 ?_
  refine Wp.back (U' := (T6.setTop (mkF m 141 #[.val (.ref ta), .val (.int 5)] [(.int 1), (.ref ta), (.int 1), (.ref b3), (.ref b3), (.ref b1), (.ref b1)]))) (fun t k => XS.dup X6.here hx rfl (hb hby d2_137) rfl rfl (XT.iconstV X6.here hx rfl 1 (hb hby d2_138) (by decide) (XS.aloadN X6.here hx rfl (hb hby d2_139) rfl rfl (XT.iconstV X6.here hx rfl 1 (hb hby d2_140) (by decide) k)))) ?_
  have vq8 := f7_1
  obtain ⟨cl8, Ar8, qa8, qs8, qn8, qh8, qg8⟩ := vq8
  have hin8 : ¬ ((1 : Int32) < 0 ∨ cl8.slots.size ≤ ((1 : Int32)).toNatClampNeg) := inb_of qs8 ⟨by decide, by decide⟩
  have hat8 : cl8.slots[((1 : Int32)).toNatClampNeg]? = some (.int c1) := Has.at qh8 hin8 rfl
  refine Wp.back (U' := (T6.setTop (mkF m 142 #[.val (.ref ta), .val (.int 5)] [(.int c1), (.int 1), (.ref b3), (.ref b3), (.ref b1), (.ref b1)]))) (fun t k => X6.caload hx (j := (1 : Int32)) (v := (.int c1)) (by rw [e6]; exact Ar8.1) (State.isArrayOf_alike hZ.alike Ar8.2.1) Ar8.2.2 hin8 hat8 (g := (mkF m 141 #[.val (.ref ta), .val (.int 5)] [(.int 1), (.ref ta), (.int 1), (.ref b3), (.ref b3), (.ref b1), (.ref b1)])) rfl rfl (hb hby d2_141) t k) ?_
  have vq9 := V6
  obtain ⟨cl9, Ar9, qa9, qs9, qn9, qh9, qg9⟩ := vq9
  have hin9 : ¬ ((1 : Int32) < 0 ∨ cl9.slots.size ≤ ((1 : Int32)).toNatClampNeg) := inb_of qs9 ⟨by decide, by decide⟩
  obtain ⟨T9, h9, X9, e9, W9, st9⟩ := stC X6 hx hZ e6 Ar9 (j := (1 : Int32)) hin9 (g := (mkF m 142 #[.val (.ref ta), .val (.int 5)] [(.int c1), (.int 1), (.ref b3), (.ref b3), (.ref b1), (.ref b1)])) rfl rfl (hb hby d2_142)
  have V9 : Arv Z h9 b3 k3 .char (5 : Int32) [(.int (nar .char c0)), (.int (nar .char c1)), (.int 0), (.int 0), (.int 0)] (.int 0) := Arv.set Ar9 qa9 qs9 qn9 qh9 qg9 (fits_nar_char c1) W9 1 rfl (Nat.le_of_ble_eq_true rfl)
  have f10_0 := Nat.le_trans f7_0 (Keep.of_wr W9).1
  have f10_1 := f7_1.other W9 ne_ta_b3
  have f10_2 := f7_2.wr W9
  have f10_3 := f7_3.wr W9 (Or.inr sz_b3)
  have f10_4 := f7_4.wr W9
  have f10_5 := f7_5.other W9 (Or.inl ne_b1_b3)
  have f10_6 := f7_6.other W9 (Or.inl ne_b1_b3)
  have N9 := Fr.snoc X9 N6 g_b3
  refine Wp.back (U' := (T9.setTop (mkF m 143 #[.val (.ref ta), .val (.int 5)] [(.ref b3), (.ref b1), (.ref b1)]))) st9 ?_
  refine Wp.back (U' := (T9.setTop (mkF m 147 #[.val (.ref ta), .val (.int 5)] [(.int 2), (.ref ta), (.int 2), (.ref b3), (.ref b3), (.ref b1), (.ref b1)]))) (fun t k => XS.dup X9.here hx rfl (hb hby d2_143) rfl rfl (XT.iconstV X9.here hx rfl 2 (hb hby d2_144) (by decide) (XS.aloadN X9.here hx rfl (hb hby d2_145) rfl rfl (XT.iconstV X9.here hx rfl 2 (hb hby d2_146) (by decide) k)))) ?_
  have vq11 := f10_1
  obtain ⟨cl11, Ar11, qa11, qs11, qn11, qh11, qg11⟩ := vq11
  have hin11 : ¬ ((2 : Int32) < 0 ∨ cl11.slots.size ≤ ((2 : Int32)).toNatClampNeg) := inb_of qs11 ⟨by decide, by decide⟩
  have hat11 : cl11.slots[((2 : Int32)).toNatClampNeg]? = some (.int c2) := Has.at qh11 hin11 rfl
  refine Wp.back (U' := (T9.setTop (mkF m 148 #[.val (.ref ta), .val (.int 5)] [(.int c2), (.int 2), (.ref b3), (.ref b3), (.ref b1), (.ref b1)]))) (fun t k => X9.caload hx (j := (2 : Int32)) (v := (.int c2)) (by rw [e9]; exact Ar11.1) (State.isArrayOf_alike hZ.alike Ar11.2.1) Ar11.2.2 hin11 hat11 (g := (mkF m 147 #[.val (.ref ta), .val (.int 5)] [(.int 2), (.ref ta), (.int 2), (.ref b3), (.ref b3), (.ref b1), (.ref b1)])) rfl rfl (hb hby d2_147) t k) ?_
  have vq12 := V9
  obtain ⟨cl12, Ar12, qa12, qs12, qn12, qh12, qg12⟩ := vq12
  have hin12 : ¬ ((2 : Int32) < 0 ∨ cl12.slots.size ≤ ((2 : Int32)).toNatClampNeg) := inb_of qs12 ⟨by decide, by decide⟩
  obtain ⟨T12, h12, X12, e12, W12, st12⟩ := stC X9 hx hZ e9 Ar12 (j := (2 : Int32)) hin12 (g := (mkF m 148 #[.val (.ref ta), .val (.int 5)] [(.int c2), (.int 2), (.ref b3), (.ref b3), (.ref b1), (.ref b1)])) rfl rfl (hb hby d2_148)
  have V12 : Arv Z h12 b3 k3 .char (5 : Int32) [(.int (nar .char c0)), (.int (nar .char c1)), (.int (nar .char c2)), (.int 0), (.int 0)] (.int 0) := Arv.set Ar12 qa12 qs12 qn12 qh12 qg12 (fits_nar_char c2) W12 2 rfl (Nat.le_of_ble_eq_true rfl)
  have f13_0 := Nat.le_trans f10_0 (Keep.of_wr W12).1
  have f13_1 := f10_1.other W12 ne_ta_b3
  have f13_2 := f10_2.wr W12
  have f13_3 := f10_3.wr W12 (Or.inr sz_b3)
  have f13_4 := f10_4.wr W12
  have f13_5 := f10_5.other W12 (Or.inl ne_b1_b3)
  have f13_6 := f10_6.other W12 (Or.inl ne_b1_b3)
  have N12 := Fr.snoc X12 N9 g_b3
  refine Wp.back (U' := (T12.setTop (mkF m 149 #[.val (.ref ta), .val (.int 5)] [(.ref b3), (.ref b1), (.ref b1)]))) st12 ?_
  refine Wp.back (U' := (T12.setTop (mkF m 153 #[.val (.ref ta), .val (.int 5)] [(.int 3), (.ref ta), (.int 3), (.ref b3), (.ref b3), (.ref b1), (.ref b1)]))) (fun t k => XS.dup X12.here hx rfl (hb hby d2_149) rfl rfl (XT.iconstV X12.here hx rfl 3 (hb hby d2_150) (by decide) (XS.aloadN X12.here hx rfl (hb hby d2_151) rfl rfl (XT.iconstV X12.here hx rfl 3 (hb hby d2_152) (by decide) k)))) ?_
  have vq14 := f13_1
  obtain ⟨cl14, Ar14, qa14, qs14, qn14, qh14, qg14⟩ := vq14
  have hin14 : ¬ ((3 : Int32) < 0 ∨ cl14.slots.size ≤ ((3 : Int32)).toNatClampNeg) := inb_of qs14 ⟨by decide, by decide⟩
  have hat14 : cl14.slots[((3 : Int32)).toNatClampNeg]? = some (.int c3) := Has.at qh14 hin14 rfl
  refine Wp.back (U' := (T12.setTop (mkF m 154 #[.val (.ref ta), .val (.int 5)] [(.int c3), (.int 3), (.ref b3), (.ref b3), (.ref b1), (.ref b1)]))) (fun t k => X12.caload hx (j := (3 : Int32)) (v := (.int c3)) (by rw [e12]; exact Ar14.1) (State.isArrayOf_alike hZ.alike Ar14.2.1) Ar14.2.2 hin14 hat14 (g := (mkF m 153 #[.val (.ref ta), .val (.int 5)] [(.int 3), (.ref ta), (.int 3), (.ref b3), (.ref b3), (.ref b1), (.ref b1)])) rfl rfl (hb hby d2_153) t k) ?_
  have vq15 := V12
  obtain ⟨cl15, Ar15, qa15, qs15, qn15, qh15, qg15⟩ := vq15
  have hin15 : ¬ ((3 : Int32) < 0 ∨ cl15.slots.size ≤ ((3 : Int32)).toNatClampNeg) := inb_of qs15 ⟨by decide, by decide⟩
  obtain ⟨T15, h15, X15, e15, W15, st15⟩ := stC X12 hx hZ e12 Ar15 (j := (3 : Int32)) hin15 (g := (mkF m 154 #[.val (.ref ta), .val (.int 5)] [(.int c3), (.int 3), (.ref b3), (.ref b3), (.ref b1), (.ref b1)])) rfl rfl (hb hby d2_154)
  have V15 : Arv Z h15 b3 k3 .char (5 : Int32) [(.int (nar .char c0)), (.int (nar .char c1)), (.int (nar .char c2)), (.int (nar .char c3)), (.int 0)] (.int 0) := Arv.set Ar15 qa15 qs15 qn15 qh15 qg15 (fits_nar_char c3) W15 3 rfl (Nat.le_of_ble_eq_true rfl)
  have f16_0 := Nat.le_trans f13_0 (Keep.of_wr W15).1
  have f16_1 := f13_1.other W15 ne_ta_b3
  have f16_2 := f13_2.wr W15
  have f16_3 := f13_3.wr W15 (Or.inr sz_b3)
  have f16_4 := f13_4.wr W15
  have f16_5 := f13_5.other W15 (Or.inl ne_b1_b3)
  have f16_6 := f13_6.other W15 (Or.inl ne_b1_b3)
  have N15 := Fr.snoc X15 N12 g_b3
  refine Wp.back (U' := (T15.setTop (mkF m 155 #[.val (.ref ta), .val (.int 5)] [(.ref b3), (.ref b1), (.ref b1)]))) st15 ?_
  refine Wp.back (U' := (T15.setTop (mkF m 159 #[.val (.ref ta), .val (.int 5)] [(.int 4), (.ref ta), (.int 4), (.ref b3), (.ref b3), (.ref b1), (.ref b1)]))) (fun t k => XS.dup X15.here hx rfl (hb hby d2_155) rfl rfl (XT.iconstV X15.here hx rfl 4 (hb hby d2_156) (by decide) (XS.aloadN X15.here hx rfl (hb hby d2_157) rfl rfl (XT.iconstV X15.here hx rfl 4 (hb hby d2_158) (by decide) k)))) ?_
  have vq17 := f16_1
  obtain ⟨cl17, Ar17, qa17, qs17, qn17, qh17, qg17⟩ := vq17
  have hin17 : ¬ ((4 : Int32) < 0 ∨ cl17.slots.size ≤ ((4 : Int32)).toNatClampNeg) := inb_of qs17 ⟨by decide, by decide⟩
  have hat17 : cl17.slots[((4 : Int32)).toNatClampNeg]? = some (.int c4) := Has.at qh17 hin17 rfl
  refine Wp.back (U' := (T15.setTop (mkF m 160 #[.val (.ref ta), .val (.int 5)] [(.int c4), (.int 4), (.ref b3), (.ref b3), (.ref b1), (.ref b1)]))) (fun t k => X15.caload hx (j := (4 : Int32)) (v := (.int c4)) (by rw [e15]; exact Ar17.1) (State.isArrayOf_alike hZ.alike Ar17.2.1) Ar17.2.2 hin17 hat17 (g := (mkF m 159 #[.val (.ref ta), .val (.int 5)] [(.int 4), (.ref ta), (.int 4), (.ref b3), (.ref b3), (.ref b1), (.ref b1)])) rfl rfl (hb hby d2_159) t k) ?_
  have vq18 := V15
  obtain ⟨cl18, Ar18, qa18, qs18, qn18, qh18, qg18⟩ := vq18
  have hin18 : ¬ ((4 : Int32) < 0 ∨ cl18.slots.size ≤ ((4 : Int32)).toNatClampNeg) := inb_of qs18 ⟨by decide, by decide⟩
  obtain ⟨T18, h18, X18, e18, W18, st18⟩ := stC X15 hx hZ e15 Ar18 (j := (4 : Int32)) hin18 (g := (mkF m 160 #[.val (.ref ta), .val (.int 5)] [(.int c4), (.int 4), (.ref b3), (.ref b3), (.ref b1), (.ref b1)])) rfl rfl (hb hby d2_160)
  have V18 : Arv Z h18 b3 k3 .char (5 : Int32) [(.int (nar .char c0)), (.int (nar .char c1)), (.int (nar .char c2)), (.int (nar .char c3)), (.int (nar .char c4))] (.int 0) := Arv.set Ar18 qa18 qs18 qn18 qh18 qg18 (fits_nar_char c4) W18 4 rfl (Nat.le_of_ble_eq_true rfl)
  have f19_0 := Nat.le_trans f16_0 (Keep.of_wr W18).1
  have f19_1 := f16_1.other W18 ne_ta_b3
  have f19_2 := f16_2.wr W18
  have f19_3 := f16_3.wr W18 (Or.inr sz_b3)
  have f19_4 := f16_4.wr W18
  have f19_5 := f16_5.other W18 (Or.inl ne_b1_b3)
  have f19_6 := f16_6.other W18 (Or.inl ne_b1_b3)
  have N18 := Fr.snoc X18 N15 g_b3
  refine Wp.back (U' := (T18.setTop (mkF m 161 #[.val (.ref ta), .val (.int 5)] [(.ref b3), (.ref b1), (.ref b1)]))) st18 ?_
  obtain ⟨_, _, ⟨T20, L20, k20, n20⟩, -, X20, ⟨Lc20, hQ20, l20, y20, z20⟩, st20⟩ := X18.specialBack hx (y := Y26) rfl hown (mvT hZ (ow hw 12 rfl)) (mvT hZ (ow hw 13 rfl)) (mvT hZ (ow hw 14 rfl)) (by decide) (backOf (W := 1) (rm_si1 l Z a0 hw [] b1 b3 (5 : Int32) k3 [(.int (nar .char c0)), (.int (nar .char c1)), (.int (nar .char c2)), (.int (nar .char c3)), (.int (nar .char c4))] [(.int (nar .byte ((nar .char c0)).toInt8.toInt32)), (.int (nar .byte ((nar .char c1)).toInt8.toInt32)), (.int (nar .byte ((nar .char c2)).toInt8.toInt32)), (.int (nar .byte ((nar .char c3)).toInt8.toInt32)), (.int (nar .byte ((nar .char c4)).toInt8.toInt32))] cs h18 n0 f19_0 f19_4 f19_6 f19_5 V18 f19_2 g_b1 (Ne.symm ne_b1_b3) (own_mk5 hc0 hc1 hc2 hc3 hc4) hcs) hZ (ow hw 14 rfl) (ow hw 11 rfl) (by decide) (by decide)) (g := (mkF m 161 #[.val (.ref ta), .val (.int 5)] [(.ref b3), (.ref b1), (.ref b1)])) rfl (by rw [hml]; rfl) (Steps.refl _) (a := b1) (argsL := [(.ref b3)]) (rest := [(.ref b1)]) (lenOf pd_22 rfl) rfl (Nat.le_of_eq rfl) (hb hby d2_161) (fun _ _ => ⟨rfl, e18, (by decide : 2 + 1 ≤ _), (by decide : 9 + 65 ≤ _)⟩)
  dsimp only [Pt.U, Pt.locs, Pt.cells, Pt.slots] at X20 l20 y20 z20 st20 hQ20
  subst l20 y20 z20
  obtain ⟨b20_0, k20_0, rfl, N20q, K20, sf20_0, o20_0, o20_1, o20_2, o20_3⟩ := hQ20
  have ne_ta_b20_0 : ta ≠ b20_0 := Nat.ne_of_lt (Nat.lt_of_lt_of_le f19_1.lt sf20_0)
  have ne_b1_b20_0 : b1 ≠ b20_0 := Nat.ne_of_lt (Nat.lt_of_lt_of_le f19_4.lt sf20_0)
  have ne_b3_b20_0 : b3 ≠ b20_0 := Nat.ne_of_lt (Nat.lt_of_lt_of_le V18.lt sf20_0)
  have g_b20_0 : n0 ≤ b20_0 := Nat.le_trans f19_0 sf20_0
  have sz_b20_0 : h0.size ≤ b20_0 := Nat.le_trans f19_3.1 sf20_0
  have f21_0 := Nat.le_trans f19_0 K20.1
  have f21_1 := f19_1.keep K20 (ninS ne_ta_b1 nin0)
  have f21_2 := Sta_keep f19_2 K20 (allS (Exa_ns f19_4) all0)
  have f21_3 := f19_3.trans K20 (allS (Or.inr sz_b1) all0)
  have f21_4 := f19_4.keep K20
  have f21_7 := V18.keep K20 (ninS (Ne.symm ne_b1_b3) nin0)
  have N20 := Fr.app N18 N20q
  refine Wp.back (U' := (T20.setTop (mkF m 164 #[.val (.ref ta), .val (.int 5)] [(.ref b1)]))) (fun t k => st20.trans k) ?_
  obtain ⟨fs, hr, hrun, hended, hW, hsame⟩ := X20.leave (v := (some (.ref b1))) (fun h => by rw [hret] at h; cases h)
  refine Wp.done (retOut X20 hx hret rfl (Or.inr (Or.inr (Or.inr (Or.inr ⟨rfl, rfl, rfl⟩)))) (hb hby d2_164) hr) hrun hended ⟨_, _, rfl, ?_, ⟨_, rfl⟩, hW, hsame.mono (by decide) (by decide)⟩
  show Q_tk5 Z ta kt c0 c1 c2 c3 c4 cs h0 n0 _ T20.heap _
  exact ⟨b1, b20_0, k20_0, rfl, N20, f21_3, sz_b1, sz_b20_0, o20_0, o20_1, o20_2, o20_3⟩
def Q_le1 (Z : State) (a1 : Addr) (a2 : Addr) (k1 : ClassId) (k2 : ClassId) (v0 : Int32) (h0 : Heap) (n0 : Nat) (v : Option Value) (h : Heap) (L : List Loc) : Prop := v = some (.int 1) ∧ Fr n0 L ∧ Keep h0 h []
theorem d25_0 : decode jdk_43_method_13_code 0 = .ok (.aload_n 0, 1) := by decide +kernel
theorem d25_1 : decode jdk_43_method_13_code 1 = .ok (.arraylength, 1) := by decide +kernel
theorem d25_2 : decode jdk_43_method_13_code 2 = .ok (.aload_n 1, 1) := by decide +kernel
theorem d25_3 : decode jdk_43_method_13_code 3 = .ok (.arraylength, 1) := by decide +kernel
theorem d25_4 : decode jdk_43_method_13_code 4 = .ok (.if_icmp .ne 30, 3) := by decide +kernel
theorem d25_7 : decode jdk_43_method_13_code 7 = .ok (.iconst 0, 1) := by decide +kernel
theorem d25_8 : decode jdk_43_method_13_code 8 = .ok (.istore_n 2, 1) := by decide +kernel
theorem d25_9 : decode jdk_43_method_13_code 9 = .ok (.iload_n 2, 1) := by decide +kernel
theorem d25_10 : decode jdk_43_method_13_code 10 = .ok (.aload_n 0, 1) := by decide +kernel
theorem d25_11 : decode jdk_43_method_13_code 11 = .ok (.arraylength, 1) := by decide +kernel
theorem d25_12 : decode jdk_43_method_13_code 12 = .ok (.if_icmp .ge 20, 3) := by decide +kernel
theorem d25_15 : decode jdk_43_method_13_code 15 = .ok (.aload_n 0, 1) := by decide +kernel
theorem d25_16 : decode jdk_43_method_13_code 16 = .ok (.iload_n 2, 1) := by decide +kernel
theorem d25_17 : decode jdk_43_method_13_code 17 = .ok (.baload, 1) := by decide +kernel
theorem d25_18 : decode jdk_43_method_13_code 18 = .ok (.aload_n 1, 1) := by decide +kernel
theorem d25_19 : decode jdk_43_method_13_code 19 = .ok (.iload_n 2, 1) := by decide +kernel
theorem d25_20 : decode jdk_43_method_13_code 20 = .ok (.baload, 1) := by decide +kernel
theorem d25_21 : decode jdk_43_method_13_code 21 = .ok (.if_icmp .eq 5, 3) := by decide +kernel
theorem d25_26 : decode jdk_43_method_13_code 26 = .ok (.iinc 2 1, 3) := by decide +kernel
theorem d25_29 : decode jdk_43_method_13_code 29 = .ok (.goto (-20), 3) := by decide +kernel
theorem d25_32 : decode jdk_43_method_13_code 32 = .ok (.iconst 1, 1) := by decide +kernel
theorem d25_33 : decode jdk_43_method_13_code 33 = .ok (.ireturn, 1) := by decide +kernel
theorem pn25 : plainName "java/lang/StringLatin1" = true := by first | (simp [plainName, overriddenIn]; done) | decide +kernel
theorem ef25_RR (m : MethodId) (x0 : Addr) (x1 : Addr) : entryFrame m #[(.ref x0), (.ref x1)] 3 = mkF m 0 #[.val (.ref x0), .val (.ref x1), .unset] [] := by first | (simp [entryFrame, mkF, argsToLocals, Value.category]; done) | rfl
set_option maxRecDepth 65536 in
set_option maxHeartbeats 40000000 in
theorem rm_le1 (l : Launch) (Z : State) (a0 : Array Value) (hw : ∀ d ∈ tables_1, d.before a0 Z = true) (ws : List Jvm.Cond) (a1 : Addr) (a2 : Addr) (k1 : ClassId) (k2 : ClassId) (v0 : Int32) (h0 : Heap) (n0 : Nat) (Z0 : n0 ≤ h0.size) (H0 : Arv Z h0 a1 k1 .byte (1 : Int32) [(.int v0)] (.int 0)) (H1 : Arv Z h0 a2 k2 .byte (1 : Int32) [(.int v0)] (.int 0)) :
    Met l Z Y28 jdk_43_method_13_code 3 (some .boolean) ws ({ frames := 0, cells := 0, slots := 0, locals := 0 } : Room) #[(.ref a1), (.ref a2)] h0 (Q_le1 Z a1 a2 k1 k2 v0 h0 n0) := by
  refine own_body (plainFor_of_name pn25) ?_
  intro p e s m below meth c s₁ hx hby hret hlk hml hZ hown hnm X0 e0
  have N0 := Fr.nil n0
  refine Wp.back (U' := (s₁.setTop (mkF m 0 #[.val (.ref a1), .val (.ref a2), .unset] []))) (fun t k => castTop (ef25_RR m a1 a2) k) ?_
  refine Wp.back (U' := (s₁.setTop (mkF m 1 #[.val (.ref a1), .val (.ref a2), .unset] [(.ref a1)]))) (fun t k => XS.aloadN X0.here hx rfl (hb hby d25_0) rfl rfl k) ?_
  have vq1 := H0
  obtain ⟨cl1, Ar1, -, qs1, qn1, -, -⟩ := vq1
  refine Wp.back (U' := (s₁.setTop (mkF m 2 #[.val (.ref a1), .val (.ref a2), .unset] [(.int 1)]))) (fun t k => X0.arraylength hx (by rw [e0]; exact Ar1.1) (State.isArrayOf_alike hZ.alike Ar1.2.1) (g := (mkF m 1 #[.val (.ref a1), .val (.ref a2), .unset] [(.ref a1)])) rfl rfl (hb hby d25_1) t (by rw [len_of qs1 qn1]; exact k)) ?_
  refine Wp.back (U' := (s₁.setTop (mkF m 3 #[.val (.ref a1), .val (.ref a2), .unset] [(.ref a2), (.int 1)]))) (fun t k => XS.aloadN X0.here hx rfl (hb hby d25_2) rfl rfl k) ?_
  have vq2 := H1
  obtain ⟨cl2, Ar2, -, qs2, qn2, -, -⟩ := vq2
  refine Wp.back (U' := (s₁.setTop (mkF m 4 #[.val (.ref a1), .val (.ref a2), .unset] [(.int 1), (.int 1)]))) (fun t k => X0.arraylength hx (by rw [e0]; exact Ar2.1) (State.isArrayOf_alike hZ.alike Ar2.2.1) (g := (mkF m 3 #[.val (.ref a1), .val (.ref a2), .unset] [(.ref a2), (.int 1)])) rfl rfl (hb hby d25_3) t (by rw [len_of qs2 qn2]; exact k)) ?_
  refine Wp.back (U' := (s₁.setTop (mkF m 11 #[.val (.ref a1), .val (.ref a2), .val (.int 0)] [(.ref a1), (.int 0)]))) (fun t k => XS.icmpNo X0.here hx rfl (hb hby d25_4) rfl (teq (by decide)).2 (XT.iconstV X0.here hx rfl 0 (hb hby d25_7) (by decide) (XS.istoreN X0.here hx rfl (hb hby d25_8) rfl (l' := #[.val (.ref a1), .val (.ref a2), .val (.int 0)]) rfl (XS.iloadN X0.here hx rfl (hb hby d25_9) rfl (XS.aloadN X0.here hx rfl (hb hby d25_10) rfl rfl k))))) ?_
  have vq3 := H0
  obtain ⟨cl3, Ar3, -, qs3, qn3, -, -⟩ := vq3
  refine Wp.back (U' := (s₁.setTop (mkF m 12 #[.val (.ref a1), .val (.ref a2), .val (.int 0)] [(.int 1), (.int 0)]))) (fun t k => X0.arraylength hx (by rw [e0]; exact Ar3.1) (State.isArrayOf_alike hZ.alike Ar3.2.1) (g := (mkF m 11 #[.val (.ref a1), .val (.ref a2), .val (.int 0)] [(.ref a1), (.int 0)])) rfl rfl (hb hby d25_11) t (by rw [len_of qs3 qn3]; exact k)) ?_
  refine Wp.back (U' := (s₁.setTop (mkF m 17 #[.val (.ref a1), .val (.ref a2), .val (.int 0)] [(.int 0), (.ref a1)]))) (fun t k => XS.icmpNo X0.here hx rfl (hb hby d25_12) rfl (tlt (by decide)).2.1 (XS.aloadN X0.here hx rfl (hb hby d25_15) rfl rfl (XS.iloadN X0.here hx rfl (hb hby d25_16) rfl k))) ?_
  have vq4 := H0
  obtain ⟨cl4, Ar4, qa4, qs4, qn4, qh4, qg4⟩ := vq4
  have hin4 : ¬ ((0 : Int32) < 0 ∨ cl4.slots.size ≤ ((0 : Int32)).toNatClampNeg) := inb_of qs4 ⟨by decide, by decide⟩
  have hat4 : cl4.slots[((0 : Int32)).toNatClampNeg]? = some (.int v0) := Has.at qh4 hin4 rfl
  refine Wp.back (U' := (s₁.setTop (mkF m 18 #[.val (.ref a1), .val (.ref a2), .val (.int 0)] [(.int v0)]))) (fun t k => X0.baloadBytes hx (j := (0 : Int32)) (v := (.int v0)) (by rw [e0]; exact Ar4.1) (State.isArrayOf_alike hZ.alike Ar4.2.1) Ar4.2.2 hin4 hat4 (g := (mkF m 17 #[.val (.ref a1), .val (.ref a2), .val (.int 0)] [(.int 0), (.ref a1)])) rfl rfl (hb hby d25_17) t k) ?_
  refine Wp.back (U' := (s₁.setTop (mkF m 20 #[.val (.ref a1), .val (.ref a2), .val (.int 0)] [(.int 0), (.ref a2), (.int v0)]))) (fun t k => XS.aloadN X0.here hx rfl (hb hby d25_18) rfl rfl (XS.iloadN X0.here hx rfl (hb hby d25_19) rfl k)) ?_
  have vq5 := H1
  obtain ⟨cl5, Ar5, qa5, qs5, qn5, qh5, qg5⟩ := vq5
  have hin5 : ¬ ((0 : Int32) < 0 ∨ cl5.slots.size ≤ ((0 : Int32)).toNatClampNeg) := inb_of qs5 ⟨by decide, by decide⟩
  have hat5 : cl5.slots[((0 : Int32)).toNatClampNeg]? = some (.int v0) := Has.at qh5 hin5 rfl
  refine Wp.back (U' := (s₁.setTop (mkF m 21 #[.val (.ref a1), .val (.ref a2), .val (.int 0)] [(.int v0), (.int v0)]))) (fun t k => X0.baloadBytes hx (j := (0 : Int32)) (v := (.int v0)) (by rw [e0]; exact Ar5.1) (State.isArrayOf_alike hZ.alike Ar5.2.1) Ar5.2.2 hin5 hat5 (g := (mkF m 20 #[.val (.ref a1), .val (.ref a2), .val (.int 0)] [(.int 0), (.ref a2), (.int v0)])) rfl rfl (hb hby d25_20) t k) ?_
  refine Wp.back (U' := (s₁.setTop (mkF m 11 #[.val (.ref a1), .val (.ref a2), .val (.int 1)] [(.ref a1), (.int 1)]))) (fun t k => XS.icmpYes X0.here hx rfl (pc0 := 21) (pc' := 26) rfl (hb hby d25_21) rfl (teq (rfl : v0 = v0)).1 (by decide) (by decide) (XT.iincV X0.here hx rfl 1 (hb hby d25_26) (by decide) rfl (l' := #[.val (.ref a1), .val (.ref a2), .val (.int 1)]) rfl (XS.goto X0.here hx rfl (pc0 := 29) (pc' := 9) rfl (hb hby d25_29) (by decide) (by decide) (XS.iloadN X0.here hx rfl (hb hby d25_9) rfl (XS.aloadN X0.here hx rfl (hb hby d25_10) rfl rfl k))))) ?_
  have vq6 := H0
  obtain ⟨cl6, Ar6, -, qs6, qn6, -, -⟩ := vq6
  refine Wp.back (U' := (s₁.setTop (mkF m 12 #[.val (.ref a1), .val (.ref a2), .val (.int 1)] [(.int 1), (.int 1)]))) (fun t k => X0.arraylength hx (by rw [e0]; exact Ar6.1) (State.isArrayOf_alike hZ.alike Ar6.2.1) (g := (mkF m 11 #[.val (.ref a1), .val (.ref a2), .val (.int 1)] [(.ref a1), (.int 1)])) rfl rfl (hb hby d25_11) t (by rw [len_of qs6 qn6]; exact k)) ?_
  refine Wp.back (U' := (s₁.setTop (mkF m 33 #[.val (.ref a1), .val (.ref a2), .val (.int 1)] [(.int 1)]))) (fun t k => XS.icmpYes X0.here hx rfl (pc0 := 12) (pc' := 32) rfl (hb hby d25_12) rfl (flt (by decide)).2.1 (by decide) (by decide) (XT.iconstV X0.here hx rfl 1 (hb hby d25_32) (by decide) k)) ?_
  obtain ⟨fs, hr, hrun, hended, hW, hsame⟩ := X0.leave (v := (some (.int 1))) (fun h => by rw [hret] at h; cases h)
  refine Wp.done (retN X0 hx (t := .boolean) hret (by simp) (hb hby d25_33) hr) hrun hended ⟨_, _, rfl, ?_, ⟨_, rfl⟩, hW, hsame.mono (by decide) (by decide)⟩
  show Q_le1 Z a1 a2 k1 k2 v0 h0 n0 _ s₁.heap _
  rw [e0]
  exact ⟨rfl, N0, (Keep.refl h0 [])⟩
def Q_le2 (Z : State) (a1 : Addr) (a2 : Addr) (k1 : ClassId) (k2 : ClassId) (v0 : Int32) (v1 : Int32) (h0 : Heap) (n0 : Nat) (v : Option Value) (h : Heap) (L : List Loc) : Prop := v = some (.int 1) ∧ Fr n0 L ∧ Keep h0 h []
set_option maxRecDepth 65536 in
set_option maxHeartbeats 40000000 in
theorem rm_le2 (l : Launch) (Z : State) (a0 : Array Value) (hw : ∀ d ∈ tables_1, d.before a0 Z = true) (ws : List Jvm.Cond) (a1 : Addr) (a2 : Addr) (k1 : ClassId) (k2 : ClassId) (v0 : Int32) (v1 : Int32) (h0 : Heap) (n0 : Nat) (Z0 : n0 ≤ h0.size) (H0 : Arv Z h0 a1 k1 .byte (2 : Int32) [(.int v0), (.int v1)] (.int 0)) (H1 : Arv Z h0 a2 k2 .byte (2 : Int32) [(.int v0), (.int v1)] (.int 0)) :
    Met l Z Y28 jdk_43_method_13_code 3 (some .boolean) ws ({ frames := 0, cells := 0, slots := 0, locals := 0 } : Room) #[(.ref a1), (.ref a2)] h0 (Q_le2 Z a1 a2 k1 k2 v0 v1 h0 n0) := by
  refine own_body (plainFor_of_name pn25) ?_
  intro p e s m below meth c s₁ hx hby hret hlk hml hZ hown hnm X0 e0
  have N0 := Fr.nil n0
  refine Wp.back (U' := (s₁.setTop (mkF m 0 #[.val (.ref a1), .val (.ref a2), .unset] []))) (fun t k => castTop (ef25_RR m a1 a2) k) ?_
  refine Wp.back (U' := (s₁.setTop (mkF m 1 #[.val (.ref a1), .val (.ref a2), .unset] [(.ref a1)]))) (fun t k => XS.aloadN X0.here hx rfl (hb hby d25_0) rfl rfl k) ?_
  have vq1 := H0
  obtain ⟨cl1, Ar1, -, qs1, qn1, -, -⟩ := vq1
  refine Wp.back (U' := (s₁.setTop (mkF m 2 #[.val (.ref a1), .val (.ref a2), .unset] [(.int 2)]))) (fun t k => X0.arraylength hx (by rw [e0]; exact Ar1.1) (State.isArrayOf_alike hZ.alike Ar1.2.1) (g := (mkF m 1 #[.val (.ref a1), .val (.ref a2), .unset] [(.ref a1)])) rfl rfl (hb hby d25_1) t (by rw [len_of qs1 qn1]; exact k)) ?_
  refine Wp.back (U' := (s₁.setTop (mkF m 3 #[.val (.ref a1), .val (.ref a2), .unset] [(.ref a2), (.int 2)]))) (fun t k => XS.aloadN X0.here hx rfl (hb hby d25_2) rfl rfl k) ?_
  have vq2 := H1
  obtain ⟨cl2, Ar2, -, qs2, qn2, -, -⟩ := vq2
  refine Wp.back (U' := (s₁.setTop (mkF m 4 #[.val (.ref a1), .val (.ref a2), .unset] [(.int 2), (.int 2)]))) (fun t k => X0.arraylength hx (by rw [e0]; exact Ar2.1) (State.isArrayOf_alike hZ.alike Ar2.2.1) (g := (mkF m 3 #[.val (.ref a1), .val (.ref a2), .unset] [(.ref a2), (.int 2)])) rfl rfl (hb hby d25_3) t (by rw [len_of qs2 qn2]; exact k)) ?_
  refine Wp.back (U' := (s₁.setTop (mkF m 11 #[.val (.ref a1), .val (.ref a2), .val (.int 0)] [(.ref a1), (.int 0)]))) (fun t k => XS.icmpNo X0.here hx rfl (hb hby d25_4) rfl (teq (by decide)).2 (XT.iconstV X0.here hx rfl 0 (hb hby d25_7) (by decide) (XS.istoreN X0.here hx rfl (hb hby d25_8) rfl (l' := #[.val (.ref a1), .val (.ref a2), .val (.int 0)]) rfl (XS.iloadN X0.here hx rfl (hb hby d25_9) rfl (XS.aloadN X0.here hx rfl (hb hby d25_10) rfl rfl k))))) ?_
  have vq3 := H0
  obtain ⟨cl3, Ar3, -, qs3, qn3, -, -⟩ := vq3
  refine Wp.back (U' := (s₁.setTop (mkF m 12 #[.val (.ref a1), .val (.ref a2), .val (.int 0)] [(.int 2), (.int 0)]))) (fun t k => X0.arraylength hx (by rw [e0]; exact Ar3.1) (State.isArrayOf_alike hZ.alike Ar3.2.1) (g := (mkF m 11 #[.val (.ref a1), .val (.ref a2), .val (.int 0)] [(.ref a1), (.int 0)])) rfl rfl (hb hby d25_11) t (by rw [len_of qs3 qn3]; exact k)) ?_
  refine Wp.back (U' := (s₁.setTop (mkF m 17 #[.val (.ref a1), .val (.ref a2), .val (.int 0)] [(.int 0), (.ref a1)]))) (fun t k => XS.icmpNo X0.here hx rfl (hb hby d25_12) rfl (tlt (by decide)).2.1 (XS.aloadN X0.here hx rfl (hb hby d25_15) rfl rfl (XS.iloadN X0.here hx rfl (hb hby d25_16) rfl k))) ?_
  have vq4 := H0
  obtain ⟨cl4, Ar4, qa4, qs4, qn4, qh4, qg4⟩ := vq4
  have hin4 : ¬ ((0 : Int32) < 0 ∨ cl4.slots.size ≤ ((0 : Int32)).toNatClampNeg) := inb_of qs4 ⟨by decide, by decide⟩
  have hat4 : cl4.slots[((0 : Int32)).toNatClampNeg]? = some (.int v0) := Has.at qh4 hin4 rfl
  refine Wp.back (U' := (s₁.setTop (mkF m 18 #[.val (.ref a1), .val (.ref a2), .val (.int 0)] [(.int v0)]))) (fun t k => X0.baloadBytes hx (j := (0 : Int32)) (v := (.int v0)) (by rw [e0]; exact Ar4.1) (State.isArrayOf_alike hZ.alike Ar4.2.1) Ar4.2.2 hin4 hat4 (g := (mkF m 17 #[.val (.ref a1), .val (.ref a2), .val (.int 0)] [(.int 0), (.ref a1)])) rfl rfl (hb hby d25_17) t k) ?_
  refine Wp.back (U' := (s₁.setTop (mkF m 20 #[.val (.ref a1), .val (.ref a2), .val (.int 0)] [(.int 0), (.ref a2), (.int v0)]))) (fun t k => XS.aloadN X0.here hx rfl (hb hby d25_18) rfl rfl (XS.iloadN X0.here hx rfl (hb hby d25_19) rfl k)) ?_
  have vq5 := H1
  obtain ⟨cl5, Ar5, qa5, qs5, qn5, qh5, qg5⟩ := vq5
  have hin5 : ¬ ((0 : Int32) < 0 ∨ cl5.slots.size ≤ ((0 : Int32)).toNatClampNeg) := inb_of qs5 ⟨by decide, by decide⟩
  have hat5 : cl5.slots[((0 : Int32)).toNatClampNeg]? = some (.int v0) := Has.at qh5 hin5 rfl
  refine Wp.back (U' := (s₁.setTop (mkF m 21 #[.val (.ref a1), .val (.ref a2), .val (.int 0)] [(.int v0), (.int v0)]))) (fun t k => X0.baloadBytes hx (j := (0 : Int32)) (v := (.int v0)) (by rw [e0]; exact Ar5.1) (State.isArrayOf_alike hZ.alike Ar5.2.1) Ar5.2.2 hin5 hat5 (g := (mkF m 20 #[.val (.ref a1), .val (.ref a2), .val (.int 0)] [(.int 0), (.ref a2), (.int v0)])) rfl rfl (hb hby d25_20) t k) ?_
  refine Wp.back (U' := (s₁.setTop (mkF m 11 #[.val (.ref a1), .val (.ref a2), .val (.int 1)] [(.ref a1), (.int 1)]))) (fun t k => XS.icmpYes X0.here hx rfl (pc0 := 21) (pc' := 26) rfl (hb hby d25_21) rfl (teq (rfl : v0 = v0)).1 (by decide) (by decide) (XT.iincV X0.here hx rfl 1 (hb hby d25_26) (by decide) rfl (l' := #[.val (.ref a1), .val (.ref a2), .val (.int 1)]) rfl (XS.goto X0.here hx rfl (pc0 := 29) (pc' := 9) rfl (hb hby d25_29) (by decide) (by decide) (XS.iloadN X0.here hx rfl (hb hby d25_9) rfl (XS.aloadN X0.here hx rfl (hb hby d25_10) rfl rfl k))))) ?_
  have vq6 := H0
  obtain ⟨cl6, Ar6, -, qs6, qn6, -, -⟩ := vq6
  refine Wp.back (U' := (s₁.setTop (mkF m 12 #[.val (.ref a1), .val (.ref a2), .val (.int 1)] [(.int 2), (.int 1)]))) (fun t k => X0.arraylength hx (by rw [e0]; exact Ar6.1) (State.isArrayOf_alike hZ.alike Ar6.2.1) (g := (mkF m 11 #[.val (.ref a1), .val (.ref a2), .val (.int 1)] [(.ref a1), (.int 1)])) rfl rfl (hb hby d25_11) t (by rw [len_of qs6 qn6]; exact k)) ?_
  refine Wp.back (U' := (s₁.setTop (mkF m 17 #[.val (.ref a1), .val (.ref a2), .val (.int 1)] [(.int 1), (.ref a1)]))) (fun t k => XS.icmpNo X0.here hx rfl (hb hby d25_12) rfl (tlt (by decide)).2.1 (XS.aloadN X0.here hx rfl (hb hby d25_15) rfl rfl (XS.iloadN X0.here hx rfl (hb hby d25_16) rfl k))) ?_
  have vq7 := H0
  obtain ⟨cl7, Ar7, qa7, qs7, qn7, qh7, qg7⟩ := vq7
  have hin7 : ¬ ((1 : Int32) < 0 ∨ cl7.slots.size ≤ ((1 : Int32)).toNatClampNeg) := inb_of qs7 ⟨by decide, by decide⟩
  have hat7 : cl7.slots[((1 : Int32)).toNatClampNeg]? = some (.int v1) := Has.at qh7 hin7 rfl
  refine Wp.back (U' := (s₁.setTop (mkF m 18 #[.val (.ref a1), .val (.ref a2), .val (.int 1)] [(.int v1)]))) (fun t k => X0.baloadBytes hx (j := (1 : Int32)) (v := (.int v1)) (by rw [e0]; exact Ar7.1) (State.isArrayOf_alike hZ.alike Ar7.2.1) Ar7.2.2 hin7 hat7 (g := (mkF m 17 #[.val (.ref a1), .val (.ref a2), .val (.int 1)] [(.int 1), (.ref a1)])) rfl rfl (hb hby d25_17) t k) ?_
  refine Wp.back (U' := (s₁.setTop (mkF m 20 #[.val (.ref a1), .val (.ref a2), .val (.int 1)] [(.int 1), (.ref a2), (.int v1)]))) (fun t k => XS.aloadN X0.here hx rfl (hb hby d25_18) rfl rfl (XS.iloadN X0.here hx rfl (hb hby d25_19) rfl k)) ?_
  have vq8 := H1
  obtain ⟨cl8, Ar8, qa8, qs8, qn8, qh8, qg8⟩ := vq8
  have hin8 : ¬ ((1 : Int32) < 0 ∨ cl8.slots.size ≤ ((1 : Int32)).toNatClampNeg) := inb_of qs8 ⟨by decide, by decide⟩
  have hat8 : cl8.slots[((1 : Int32)).toNatClampNeg]? = some (.int v1) := Has.at qh8 hin8 rfl
  refine Wp.back (U' := (s₁.setTop (mkF m 21 #[.val (.ref a1), .val (.ref a2), .val (.int 1)] [(.int v1), (.int v1)]))) (fun t k => X0.baloadBytes hx (j := (1 : Int32)) (v := (.int v1)) (by rw [e0]; exact Ar8.1) (State.isArrayOf_alike hZ.alike Ar8.2.1) Ar8.2.2 hin8 hat8 (g := (mkF m 20 #[.val (.ref a1), .val (.ref a2), .val (.int 1)] [(.int 1), (.ref a2), (.int v1)])) rfl rfl (hb hby d25_20) t k) ?_
  refine Wp.back (U' := (s₁.setTop (mkF m 11 #[.val (.ref a1), .val (.ref a2), .val (.int 2)] [(.ref a1), (.int 2)]))) (fun t k => XS.icmpYes X0.here hx rfl (pc0 := 21) (pc' := 26) rfl (hb hby d25_21) rfl (teq (rfl : v1 = v1)).1 (by decide) (by decide) (XT.iincV X0.here hx rfl 1 (hb hby d25_26) (by decide) rfl (l' := #[.val (.ref a1), .val (.ref a2), .val (.int 2)]) rfl (XS.goto X0.here hx rfl (pc0 := 29) (pc' := 9) rfl (hb hby d25_29) (by decide) (by decide) (XS.iloadN X0.here hx rfl (hb hby d25_9) rfl (XS.aloadN X0.here hx rfl (hb hby d25_10) rfl rfl k))))) ?_
  have vq9 := H0
  obtain ⟨cl9, Ar9, -, qs9, qn9, -, -⟩ := vq9
  refine Wp.back (U' := (s₁.setTop (mkF m 12 #[.val (.ref a1), .val (.ref a2), .val (.int 2)] [(.int 2), (.int 2)]))) (fun t k => X0.arraylength hx (by rw [e0]; exact Ar9.1) (State.isArrayOf_alike hZ.alike Ar9.2.1) (g := (mkF m 11 #[.val (.ref a1), .val (.ref a2), .val (.int 2)] [(.ref a1), (.int 2)])) rfl rfl (hb hby d25_11) t (by rw [len_of qs9 qn9]; exact k)) ?_
  refine Wp.back (U' := (s₁.setTop (mkF m 33 #[.val (.ref a1), .val (.ref a2), .val (.int 2)] [(.int 1)]))) (fun t k => XS.icmpYes X0.here hx rfl (pc0 := 12) (pc' := 32) rfl (hb hby d25_12) rfl (flt (by decide)).2.1 (by decide) (by decide) (XT.iconstV X0.here hx rfl 1 (hb hby d25_32) (by decide) k)) ?_
  obtain ⟨fs, hr, hrun, hended, hW, hsame⟩ := X0.leave (v := (some (.int 1))) (fun h => by rw [hret] at h; cases h)
  refine Wp.done (retN X0 hx (t := .boolean) hret (by simp) (hb hby d25_33) hr) hrun hended ⟨_, _, rfl, ?_, ⟨_, rfl⟩, hW, hsame.mono (by decide) (by decide)⟩
  show Q_le2 Z a1 a2 k1 k2 v0 v1 h0 n0 _ s₁.heap _
  rw [e0]
  exact ⟨rfl, N0, (Keep.refl h0 [])⟩
def Q_le3 (Z : State) (a1 : Addr) (a2 : Addr) (k1 : ClassId) (k2 : ClassId) (v0 : Int32) (v1 : Int32) (v2 : Int32) (h0 : Heap) (n0 : Nat) (v : Option Value) (h : Heap) (L : List Loc) : Prop := v = some (.int 1) ∧ Fr n0 L ∧ Keep h0 h []
set_option maxRecDepth 65536 in
set_option maxHeartbeats 40000000 in
theorem rm_le3 (l : Launch) (Z : State) (a0 : Array Value) (hw : ∀ d ∈ tables_1, d.before a0 Z = true) (ws : List Jvm.Cond) (a1 : Addr) (a2 : Addr) (k1 : ClassId) (k2 : ClassId) (v0 : Int32) (v1 : Int32) (v2 : Int32) (h0 : Heap) (n0 : Nat) (Z0 : n0 ≤ h0.size) (H0 : Arv Z h0 a1 k1 .byte (3 : Int32) [(.int v0), (.int v1), (.int v2)] (.int 0)) (H1 : Arv Z h0 a2 k2 .byte (3 : Int32) [(.int v0), (.int v1), (.int v2)] (.int 0)) :
    Met l Z Y28 jdk_43_method_13_code 3 (some .boolean) ws ({ frames := 0, cells := 0, slots := 0, locals := 0 } : Room) #[(.ref a1), (.ref a2)] h0 (Q_le3 Z a1 a2 k1 k2 v0 v1 v2 h0 n0) := by
  refine own_body (plainFor_of_name pn25) ?_
  intro p e s m below meth c s₁ hx hby hret hlk hml hZ hown hnm X0 e0
  have N0 := Fr.nil n0
  refine Wp.back (U' := (s₁.setTop (mkF m 0 #[.val (.ref a1), .val (.ref a2), .unset] []))) (fun t k => castTop (ef25_RR m a1 a2) k) ?_
  refine Wp.back (U' := (s₁.setTop (mkF m 1 #[.val (.ref a1), .val (.ref a2), .unset] [(.ref a1)]))) (fun t k => XS.aloadN X0.here hx rfl (hb hby d25_0) rfl rfl k) ?_
  have vq1 := H0
  obtain ⟨cl1, Ar1, -, qs1, qn1, -, -⟩ := vq1
  refine Wp.back (U' := (s₁.setTop (mkF m 2 #[.val (.ref a1), .val (.ref a2), .unset] [(.int 3)]))) (fun t k => X0.arraylength hx (by rw [e0]; exact Ar1.1) (State.isArrayOf_alike hZ.alike Ar1.2.1) (g := (mkF m 1 #[.val (.ref a1), .val (.ref a2), .unset] [(.ref a1)])) rfl rfl (hb hby d25_1) t (by rw [len_of qs1 qn1]; exact k)) ?_
  refine Wp.back (U' := (s₁.setTop (mkF m 3 #[.val (.ref a1), .val (.ref a2), .unset] [(.ref a2), (.int 3)]))) (fun t k => XS.aloadN X0.here hx rfl (hb hby d25_2) rfl rfl k) ?_
  have vq2 := H1
  obtain ⟨cl2, Ar2, -, qs2, qn2, -, -⟩ := vq2
  refine Wp.back (U' := (s₁.setTop (mkF m 4 #[.val (.ref a1), .val (.ref a2), .unset] [(.int 3), (.int 3)]))) (fun t k => X0.arraylength hx (by rw [e0]; exact Ar2.1) (State.isArrayOf_alike hZ.alike Ar2.2.1) (g := (mkF m 3 #[.val (.ref a1), .val (.ref a2), .unset] [(.ref a2), (.int 3)])) rfl rfl (hb hby d25_3) t (by rw [len_of qs2 qn2]; exact k)) ?_
  refine Wp.back (U' := (s₁.setTop (mkF m 11 #[.val (.ref a1), .val (.ref a2), .val (.int 0)] [(.ref a1), (.int 0)]))) (fun t k => XS.icmpNo X0.here hx rfl (hb hby d25_4) rfl (teq (by decide)).2 (XT.iconstV X0.here hx rfl 0 (hb hby d25_7) (by decide) (XS.istoreN X0.here hx rfl (hb hby d25_8) rfl (l' := #[.val (.ref a1), .val (.ref a2), .val (.int 0)]) rfl (XS.iloadN X0.here hx rfl (hb hby d25_9) rfl (XS.aloadN X0.here hx rfl (hb hby d25_10) rfl rfl k))))) ?_
  have vq3 := H0
  obtain ⟨cl3, Ar3, -, qs3, qn3, -, -⟩ := vq3
  refine Wp.back (U' := (s₁.setTop (mkF m 12 #[.val (.ref a1), .val (.ref a2), .val (.int 0)] [(.int 3), (.int 0)]))) (fun t k => X0.arraylength hx (by rw [e0]; exact Ar3.1) (State.isArrayOf_alike hZ.alike Ar3.2.1) (g := (mkF m 11 #[.val (.ref a1), .val (.ref a2), .val (.int 0)] [(.ref a1), (.int 0)])) rfl rfl (hb hby d25_11) t (by rw [len_of qs3 qn3]; exact k)) ?_
  refine Wp.back (U' := (s₁.setTop (mkF m 17 #[.val (.ref a1), .val (.ref a2), .val (.int 0)] [(.int 0), (.ref a1)]))) (fun t k => XS.icmpNo X0.here hx rfl (hb hby d25_12) rfl (tlt (by decide)).2.1 (XS.aloadN X0.here hx rfl (hb hby d25_15) rfl rfl (XS.iloadN X0.here hx rfl (hb hby d25_16) rfl k))) ?_
  have vq4 := H0
  obtain ⟨cl4, Ar4, qa4, qs4, qn4, qh4, qg4⟩ := vq4
  have hin4 : ¬ ((0 : Int32) < 0 ∨ cl4.slots.size ≤ ((0 : Int32)).toNatClampNeg) := inb_of qs4 ⟨by decide, by decide⟩
  have hat4 : cl4.slots[((0 : Int32)).toNatClampNeg]? = some (.int v0) := Has.at qh4 hin4 rfl
  refine Wp.back (U' := (s₁.setTop (mkF m 18 #[.val (.ref a1), .val (.ref a2), .val (.int 0)] [(.int v0)]))) (fun t k => X0.baloadBytes hx (j := (0 : Int32)) (v := (.int v0)) (by rw [e0]; exact Ar4.1) (State.isArrayOf_alike hZ.alike Ar4.2.1) Ar4.2.2 hin4 hat4 (g := (mkF m 17 #[.val (.ref a1), .val (.ref a2), .val (.int 0)] [(.int 0), (.ref a1)])) rfl rfl (hb hby d25_17) t k) ?_
  refine Wp.back (U' := (s₁.setTop (mkF m 20 #[.val (.ref a1), .val (.ref a2), .val (.int 0)] [(.int 0), (.ref a2), (.int v0)]))) (fun t k => XS.aloadN X0.here hx rfl (hb hby d25_18) rfl rfl (XS.iloadN X0.here hx rfl (hb hby d25_19) rfl k)) ?_
  have vq5 := H1
  obtain ⟨cl5, Ar5, qa5, qs5, qn5, qh5, qg5⟩ := vq5
  have hin5 : ¬ ((0 : Int32) < 0 ∨ cl5.slots.size ≤ ((0 : Int32)).toNatClampNeg) := inb_of qs5 ⟨by decide, by decide⟩
  have hat5 : cl5.slots[((0 : Int32)).toNatClampNeg]? = some (.int v0) := Has.at qh5 hin5 rfl
  refine Wp.back (U' := (s₁.setTop (mkF m 21 #[.val (.ref a1), .val (.ref a2), .val (.int 0)] [(.int v0), (.int v0)]))) (fun t k => X0.baloadBytes hx (j := (0 : Int32)) (v := (.int v0)) (by rw [e0]; exact Ar5.1) (State.isArrayOf_alike hZ.alike Ar5.2.1) Ar5.2.2 hin5 hat5 (g := (mkF m 20 #[.val (.ref a1), .val (.ref a2), .val (.int 0)] [(.int 0), (.ref a2), (.int v0)])) rfl rfl (hb hby d25_20) t k) ?_
  refine Wp.back (U' := (s₁.setTop (mkF m 11 #[.val (.ref a1), .val (.ref a2), .val (.int 1)] [(.ref a1), (.int 1)]))) (fun t k => XS.icmpYes X0.here hx rfl (pc0 := 21) (pc' := 26) rfl (hb hby d25_21) rfl (teq (rfl : v0 = v0)).1 (by decide) (by decide) (XT.iincV X0.here hx rfl 1 (hb hby d25_26) (by decide) rfl (l' := #[.val (.ref a1), .val (.ref a2), .val (.int 1)]) rfl (XS.goto X0.here hx rfl (pc0 := 29) (pc' := 9) rfl (hb hby d25_29) (by decide) (by decide) (XS.iloadN X0.here hx rfl (hb hby d25_9) rfl (XS.aloadN X0.here hx rfl (hb hby d25_10) rfl rfl k))))) ?_
  have vq6 := H0
  obtain ⟨cl6, Ar6, -, qs6, qn6, -, -⟩ := vq6
  refine Wp.back (U' := (s₁.setTop (mkF m 12 #[.val (.ref a1), .val (.ref a2), .val (.int 1)] [(.int 3), (.int 1)]))) (fun t k => X0.arraylength hx (by rw [e0]; exact Ar6.1) (State.isArrayOf_alike hZ.alike Ar6.2.1) (g := (mkF m 11 #[.val (.ref a1), .val (.ref a2), .val (.int 1)] [(.ref a1), (.int 1)])) rfl rfl (hb hby d25_11) t (by rw [len_of qs6 qn6]; exact k)) ?_
  refine Wp.back (U' := (s₁.setTop (mkF m 17 #[.val (.ref a1), .val (.ref a2), .val (.int 1)] [(.int 1), (.ref a1)]))) (fun t k => XS.icmpNo X0.here hx rfl (hb hby d25_12) rfl (tlt (by decide)).2.1 (XS.aloadN X0.here hx rfl (hb hby d25_15) rfl rfl (XS.iloadN X0.here hx rfl (hb hby d25_16) rfl k))) ?_
  have vq7 := H0
  obtain ⟨cl7, Ar7, qa7, qs7, qn7, qh7, qg7⟩ := vq7
  have hin7 : ¬ ((1 : Int32) < 0 ∨ cl7.slots.size ≤ ((1 : Int32)).toNatClampNeg) := inb_of qs7 ⟨by decide, by decide⟩
  have hat7 : cl7.slots[((1 : Int32)).toNatClampNeg]? = some (.int v1) := Has.at qh7 hin7 rfl
  refine Wp.back (U' := (s₁.setTop (mkF m 18 #[.val (.ref a1), .val (.ref a2), .val (.int 1)] [(.int v1)]))) (fun t k => X0.baloadBytes hx (j := (1 : Int32)) (v := (.int v1)) (by rw [e0]; exact Ar7.1) (State.isArrayOf_alike hZ.alike Ar7.2.1) Ar7.2.2 hin7 hat7 (g := (mkF m 17 #[.val (.ref a1), .val (.ref a2), .val (.int 1)] [(.int 1), (.ref a1)])) rfl rfl (hb hby d25_17) t k) ?_
  refine Wp.back (U' := (s₁.setTop (mkF m 20 #[.val (.ref a1), .val (.ref a2), .val (.int 1)] [(.int 1), (.ref a2), (.int v1)]))) (fun t k => XS.aloadN X0.here hx rfl (hb hby d25_18) rfl rfl (XS.iloadN X0.here hx rfl (hb hby d25_19) rfl k)) ?_
  have vq8 := H1
  obtain ⟨cl8, Ar8, qa8, qs8, qn8, qh8, qg8⟩ := vq8
  have hin8 : ¬ ((1 : Int32) < 0 ∨ cl8.slots.size ≤ ((1 : Int32)).toNatClampNeg) := inb_of qs8 ⟨by decide, by decide⟩
  have hat8 : cl8.slots[((1 : Int32)).toNatClampNeg]? = some (.int v1) := Has.at qh8 hin8 rfl
  refine Wp.back (U' := (s₁.setTop (mkF m 21 #[.val (.ref a1), .val (.ref a2), .val (.int 1)] [(.int v1), (.int v1)]))) (fun t k => X0.baloadBytes hx (j := (1 : Int32)) (v := (.int v1)) (by rw [e0]; exact Ar8.1) (State.isArrayOf_alike hZ.alike Ar8.2.1) Ar8.2.2 hin8 hat8 (g := (mkF m 20 #[.val (.ref a1), .val (.ref a2), .val (.int 1)] [(.int 1), (.ref a2), (.int v1)])) rfl rfl (hb hby d25_20) t k) ?_
  refine Wp.back (U' := (s₁.setTop (mkF m 11 #[.val (.ref a1), .val (.ref a2), .val (.int 2)] [(.ref a1), (.int 2)]))) (fun t k => XS.icmpYes X0.here hx rfl (pc0 := 21) (pc' := 26) rfl (hb hby d25_21) rfl (teq (rfl : v1 = v1)).1 (by decide) (by decide) (XT.iincV X0.here hx rfl 1 (hb hby d25_26) (by decide) rfl (l' := #[.val (.ref a1), .val (.ref a2), .val (.int 2)]) rfl (XS.goto X0.here hx rfl (pc0 := 29) (pc' := 9) rfl (hb hby d25_29) (by decide) (by decide) (XS.iloadN X0.here hx rfl (hb hby d25_9) rfl (XS.aloadN X0.here hx rfl (hb hby d25_10) rfl rfl k))))) ?_
  have vq9 := H0
  obtain ⟨cl9, Ar9, -, qs9, qn9, -, -⟩ := vq9
  refine Wp.back (U' := (s₁.setTop (mkF m 12 #[.val (.ref a1), .val (.ref a2), .val (.int 2)] [(.int 3), (.int 2)]))) (fun t k => X0.arraylength hx (by rw [e0]; exact Ar9.1) (State.isArrayOf_alike hZ.alike Ar9.2.1) (g := (mkF m 11 #[.val (.ref a1), .val (.ref a2), .val (.int 2)] [(.ref a1), (.int 2)])) rfl rfl (hb hby d25_11) t (by rw [len_of qs9 qn9]; exact k)) ?_
  refine Wp.back (U' := (s₁.setTop (mkF m 17 #[.val (.ref a1), .val (.ref a2), .val (.int 2)] [(.int 2), (.ref a1)]))) (fun t k => XS.icmpNo X0.here hx rfl (hb hby d25_12) rfl (tlt (by decide)).2.1 (XS.aloadN X0.here hx rfl (hb hby d25_15) rfl rfl (XS.iloadN X0.here hx rfl (hb hby d25_16) rfl k))) ?_
  have vq10 := H0
  obtain ⟨cl10, Ar10, qa10, qs10, qn10, qh10, qg10⟩ := vq10
  have hin10 : ¬ ((2 : Int32) < 0 ∨ cl10.slots.size ≤ ((2 : Int32)).toNatClampNeg) := inb_of qs10 ⟨by decide, by decide⟩
  have hat10 : cl10.slots[((2 : Int32)).toNatClampNeg]? = some (.int v2) := Has.at qh10 hin10 rfl
  refine Wp.back (U' := (s₁.setTop (mkF m 18 #[.val (.ref a1), .val (.ref a2), .val (.int 2)] [(.int v2)]))) (fun t k => X0.baloadBytes hx (j := (2 : Int32)) (v := (.int v2)) (by rw [e0]; exact Ar10.1) (State.isArrayOf_alike hZ.alike Ar10.2.1) Ar10.2.2 hin10 hat10 (g := (mkF m 17 #[.val (.ref a1), .val (.ref a2), .val (.int 2)] [(.int 2), (.ref a1)])) rfl rfl (hb hby d25_17) t k) ?_
  refine Wp.back (U' := (s₁.setTop (mkF m 20 #[.val (.ref a1), .val (.ref a2), .val (.int 2)] [(.int 2), (.ref a2), (.int v2)]))) (fun t k => XS.aloadN X0.here hx rfl (hb hby d25_18) rfl rfl (XS.iloadN X0.here hx rfl (hb hby d25_19) rfl k)) ?_
  have vq11 := H1
  obtain ⟨cl11, Ar11, qa11, qs11, qn11, qh11, qg11⟩ := vq11
  have hin11 : ¬ ((2 : Int32) < 0 ∨ cl11.slots.size ≤ ((2 : Int32)).toNatClampNeg) := inb_of qs11 ⟨by decide, by decide⟩
  have hat11 : cl11.slots[((2 : Int32)).toNatClampNeg]? = some (.int v2) := Has.at qh11 hin11 rfl
  refine Wp.back (U' := (s₁.setTop (mkF m 21 #[.val (.ref a1), .val (.ref a2), .val (.int 2)] [(.int v2), (.int v2)]))) (fun t k => X0.baloadBytes hx (j := (2 : Int32)) (v := (.int v2)) (by rw [e0]; exact Ar11.1) (State.isArrayOf_alike hZ.alike Ar11.2.1) Ar11.2.2 hin11 hat11 (g := (mkF m 20 #[.val (.ref a1), .val (.ref a2), .val (.int 2)] [(.int 2), (.ref a2), (.int v2)])) rfl rfl (hb hby d25_20) t k) ?_
  refine Wp.back (U' := (s₁.setTop (mkF m 11 #[.val (.ref a1), .val (.ref a2), .val (.int 3)] [(.ref a1), (.int 3)]))) (fun t k => XS.icmpYes X0.here hx rfl (pc0 := 21) (pc' := 26) rfl (hb hby d25_21) rfl (teq (rfl : v2 = v2)).1 (by decide) (by decide) (XT.iincV X0.here hx rfl 1 (hb hby d25_26) (by decide) rfl (l' := #[.val (.ref a1), .val (.ref a2), .val (.int 3)]) rfl (XS.goto X0.here hx rfl (pc0 := 29) (pc' := 9) rfl (hb hby d25_29) (by decide) (by decide) (XS.iloadN X0.here hx rfl (hb hby d25_9) rfl (XS.aloadN X0.here hx rfl (hb hby d25_10) rfl rfl k))))) ?_
  have vq12 := H0
  obtain ⟨cl12, Ar12, -, qs12, qn12, -, -⟩ := vq12
  refine Wp.back (U' := (s₁.setTop (mkF m 12 #[.val (.ref a1), .val (.ref a2), .val (.int 3)] [(.int 3), (.int 3)]))) (fun t k => X0.arraylength hx (by rw [e0]; exact Ar12.1) (State.isArrayOf_alike hZ.alike Ar12.2.1) (g := (mkF m 11 #[.val (.ref a1), .val (.ref a2), .val (.int 3)] [(.ref a1), (.int 3)])) rfl rfl (hb hby d25_11) t (by rw [len_of qs12 qn12]; exact k)) ?_
  refine Wp.back (U' := (s₁.setTop (mkF m 33 #[.val (.ref a1), .val (.ref a2), .val (.int 3)] [(.int 1)]))) (fun t k => XS.icmpYes X0.here hx rfl (pc0 := 12) (pc' := 32) rfl (hb hby d25_12) rfl (flt (by decide)).2.1 (by decide) (by decide) (XT.iconstV X0.here hx rfl 1 (hb hby d25_32) (by decide) k)) ?_
  obtain ⟨fs, hr, hrun, hended, hW, hsame⟩ := X0.leave (v := (some (.int 1))) (fun h => by rw [hret] at h; cases h)
  refine Wp.done (retN X0 hx (t := .boolean) hret (by simp) (hb hby d25_33) hr) hrun hended ⟨_, _, rfl, ?_, ⟨_, rfl⟩, hW, hsame.mono (by decide) (by decide)⟩
  show Q_le3 Z a1 a2 k1 k2 v0 v1 v2 h0 n0 _ s₁.heap _
  rw [e0]
  exact ⟨rfl, N0, (Keep.refl h0 [])⟩
def Q_le4 (Z : State) (a1 : Addr) (a2 : Addr) (k1 : ClassId) (k2 : ClassId) (v0 : Int32) (v1 : Int32) (v2 : Int32) (v3 : Int32) (h0 : Heap) (n0 : Nat) (v : Option Value) (h : Heap) (L : List Loc) : Prop := v = some (.int 1) ∧ Fr n0 L ∧ Keep h0 h []
set_option maxRecDepth 65536 in
set_option maxHeartbeats 40000000 in
theorem rm_le4 (l : Launch) (Z : State) (a0 : Array Value) (hw : ∀ d ∈ tables_1, d.before a0 Z = true) (ws : List Jvm.Cond) (a1 : Addr) (a2 : Addr) (k1 : ClassId) (k2 : ClassId) (v0 : Int32) (v1 : Int32) (v2 : Int32) (v3 : Int32) (h0 : Heap) (n0 : Nat) (Z0 : n0 ≤ h0.size) (H0 : Arv Z h0 a1 k1 .byte (4 : Int32) [(.int v0), (.int v1), (.int v2), (.int v3)] (.int 0)) (H1 : Arv Z h0 a2 k2 .byte (4 : Int32) [(.int v0), (.int v1), (.int v2), (.int v3)] (.int 0)) :
    Met l Z Y28 jdk_43_method_13_code 3 (some .boolean) ws ({ frames := 0, cells := 0, slots := 0, locals := 0 } : Room) #[(.ref a1), (.ref a2)] h0 (Q_le4 Z a1 a2 k1 k2 v0 v1 v2 v3 h0 n0) := by
  refine own_body (plainFor_of_name pn25) ?_
  intro p e s m below meth c s₁ hx hby hret hlk hml hZ hown hnm X0 e0
  have N0 := Fr.nil n0
  refine Wp.back (U' := (s₁.setTop (mkF m 0 #[.val (.ref a1), .val (.ref a2), .unset] []))) (fun t k => castTop (ef25_RR m a1 a2) k) ?_
  refine Wp.back (U' := (s₁.setTop (mkF m 1 #[.val (.ref a1), .val (.ref a2), .unset] [(.ref a1)]))) (fun t k => XS.aloadN X0.here hx rfl (hb hby d25_0) rfl rfl k) ?_
  have vq1 := H0
  obtain ⟨cl1, Ar1, -, qs1, qn1, -, -⟩ := vq1
  refine Wp.back (U' := (s₁.setTop (mkF m 2 #[.val (.ref a1), .val (.ref a2), .unset] [(.int 4)]))) (fun t k => X0.arraylength hx (by rw [e0]; exact Ar1.1) (State.isArrayOf_alike hZ.alike Ar1.2.1) (g := (mkF m 1 #[.val (.ref a1), .val (.ref a2), .unset] [(.ref a1)])) rfl rfl (hb hby d25_1) t (by rw [len_of qs1 qn1]; exact k)) ?_
  refine Wp.back (U' := (s₁.setTop (mkF m 3 #[.val (.ref a1), .val (.ref a2), .unset] [(.ref a2), (.int 4)]))) (fun t k => XS.aloadN X0.here hx rfl (hb hby d25_2) rfl rfl k) ?_
  have vq2 := H1
  obtain ⟨cl2, Ar2, -, qs2, qn2, -, -⟩ := vq2
  refine Wp.back (U' := (s₁.setTop (mkF m 4 #[.val (.ref a1), .val (.ref a2), .unset] [(.int 4), (.int 4)]))) (fun t k => X0.arraylength hx (by rw [e0]; exact Ar2.1) (State.isArrayOf_alike hZ.alike Ar2.2.1) (g := (mkF m 3 #[.val (.ref a1), .val (.ref a2), .unset] [(.ref a2), (.int 4)])) rfl rfl (hb hby d25_3) t (by rw [len_of qs2 qn2]; exact k)) ?_
  refine Wp.back (U' := (s₁.setTop (mkF m 11 #[.val (.ref a1), .val (.ref a2), .val (.int 0)] [(.ref a1), (.int 0)]))) (fun t k => XS.icmpNo X0.here hx rfl (hb hby d25_4) rfl (teq (by decide)).2 (XT.iconstV X0.here hx rfl 0 (hb hby d25_7) (by decide) (XS.istoreN X0.here hx rfl (hb hby d25_8) rfl (l' := #[.val (.ref a1), .val (.ref a2), .val (.int 0)]) rfl (XS.iloadN X0.here hx rfl (hb hby d25_9) rfl (XS.aloadN X0.here hx rfl (hb hby d25_10) rfl rfl k))))) ?_
  have vq3 := H0
  obtain ⟨cl3, Ar3, -, qs3, qn3, -, -⟩ := vq3
  refine Wp.back (U' := (s₁.setTop (mkF m 12 #[.val (.ref a1), .val (.ref a2), .val (.int 0)] [(.int 4), (.int 0)]))) (fun t k => X0.arraylength hx (by rw [e0]; exact Ar3.1) (State.isArrayOf_alike hZ.alike Ar3.2.1) (g := (mkF m 11 #[.val (.ref a1), .val (.ref a2), .val (.int 0)] [(.ref a1), (.int 0)])) rfl rfl (hb hby d25_11) t (by rw [len_of qs3 qn3]; exact k)) ?_
  refine Wp.back (U' := (s₁.setTop (mkF m 17 #[.val (.ref a1), .val (.ref a2), .val (.int 0)] [(.int 0), (.ref a1)]))) (fun t k => XS.icmpNo X0.here hx rfl (hb hby d25_12) rfl (tlt (by decide)).2.1 (XS.aloadN X0.here hx rfl (hb hby d25_15) rfl rfl (XS.iloadN X0.here hx rfl (hb hby d25_16) rfl k))) ?_
  have vq4 := H0
  obtain ⟨cl4, Ar4, qa4, qs4, qn4, qh4, qg4⟩ := vq4
  have hin4 : ¬ ((0 : Int32) < 0 ∨ cl4.slots.size ≤ ((0 : Int32)).toNatClampNeg) := inb_of qs4 ⟨by decide, by decide⟩
  have hat4 : cl4.slots[((0 : Int32)).toNatClampNeg]? = some (.int v0) := Has.at qh4 hin4 rfl
  refine Wp.back (U' := (s₁.setTop (mkF m 18 #[.val (.ref a1), .val (.ref a2), .val (.int 0)] [(.int v0)]))) (fun t k => X0.baloadBytes hx (j := (0 : Int32)) (v := (.int v0)) (by rw [e0]; exact Ar4.1) (State.isArrayOf_alike hZ.alike Ar4.2.1) Ar4.2.2 hin4 hat4 (g := (mkF m 17 #[.val (.ref a1), .val (.ref a2), .val (.int 0)] [(.int 0), (.ref a1)])) rfl rfl (hb hby d25_17) t k) ?_
  refine Wp.back (U' := (s₁.setTop (mkF m 20 #[.val (.ref a1), .val (.ref a2), .val (.int 0)] [(.int 0), (.ref a2), (.int v0)]))) (fun t k => XS.aloadN X0.here hx rfl (hb hby d25_18) rfl rfl (XS.iloadN X0.here hx rfl (hb hby d25_19) rfl k)) ?_
  have vq5 := H1
  obtain ⟨cl5, Ar5, qa5, qs5, qn5, qh5, qg5⟩ := vq5
  have hin5 : ¬ ((0 : Int32) < 0 ∨ cl5.slots.size ≤ ((0 : Int32)).toNatClampNeg) := inb_of qs5 ⟨by decide, by decide⟩
  have hat5 : cl5.slots[((0 : Int32)).toNatClampNeg]? = some (.int v0) := Has.at qh5 hin5 rfl
  refine Wp.back (U' := (s₁.setTop (mkF m 21 #[.val (.ref a1), .val (.ref a2), .val (.int 0)] [(.int v0), (.int v0)]))) (fun t k => X0.baloadBytes hx (j := (0 : Int32)) (v := (.int v0)) (by rw [e0]; exact Ar5.1) (State.isArrayOf_alike hZ.alike Ar5.2.1) Ar5.2.2 hin5 hat5 (g := (mkF m 20 #[.val (.ref a1), .val (.ref a2), .val (.int 0)] [(.int 0), (.ref a2), (.int v0)])) rfl rfl (hb hby d25_20) t k) ?_
  refine Wp.back (U' := (s₁.setTop (mkF m 11 #[.val (.ref a1), .val (.ref a2), .val (.int 1)] [(.ref a1), (.int 1)]))) (fun t k => XS.icmpYes X0.here hx rfl (pc0 := 21) (pc' := 26) rfl (hb hby d25_21) rfl (teq (rfl : v0 = v0)).1 (by decide) (by decide) (XT.iincV X0.here hx rfl 1 (hb hby d25_26) (by decide) rfl (l' := #[.val (.ref a1), .val (.ref a2), .val (.int 1)]) rfl (XS.goto X0.here hx rfl (pc0 := 29) (pc' := 9) rfl (hb hby d25_29) (by decide) (by decide) (XS.iloadN X0.here hx rfl (hb hby d25_9) rfl (XS.aloadN X0.here hx rfl (hb hby d25_10) rfl rfl k))))) ?_
  have vq6 := H0
  obtain ⟨cl6, Ar6, -, qs6, qn6, -, -⟩ := vq6
  refine Wp.back (U' := (s₁.setTop (mkF m 12 #[.val (.ref a1), .val (.ref a2), .val (.int 1)] [(.int 4), (.int 1)]))) (fun t k => X0.arraylength hx (by rw [e0]; exact Ar6.1) (State.isArrayOf_alike hZ.alike Ar6.2.1) (g := (mkF m 11 #[.val (.ref a1), .val (.ref a2), .val (.int 1)] [(.ref a1), (.int 1)])) rfl rfl (hb hby d25_11) t (by rw [len_of qs6 qn6]; exact k)) ?_
  refine Wp.back (U' := (s₁.setTop (mkF m 17 #[.val (.ref a1), .val (.ref a2), .val (.int 1)] [(.int 1), (.ref a1)]))) (fun t k => XS.icmpNo X0.here hx rfl (hb hby d25_12) rfl (tlt (by decide)).2.1 (XS.aloadN X0.here hx rfl (hb hby d25_15) rfl rfl (XS.iloadN X0.here hx rfl (hb hby d25_16) rfl k))) ?_
  have vq7 := H0
  obtain ⟨cl7, Ar7, qa7, qs7, qn7, qh7, qg7⟩ := vq7
  have hin7 : ¬ ((1 : Int32) < 0 ∨ cl7.slots.size ≤ ((1 : Int32)).toNatClampNeg) := inb_of qs7 ⟨by decide, by decide⟩
  have hat7 : cl7.slots[((1 : Int32)).toNatClampNeg]? = some (.int v1) := Has.at qh7 hin7 rfl
  refine Wp.back (U' := (s₁.setTop (mkF m 18 #[.val (.ref a1), .val (.ref a2), .val (.int 1)] [(.int v1)]))) (fun t k => X0.baloadBytes hx (j := (1 : Int32)) (v := (.int v1)) (by rw [e0]; exact Ar7.1) (State.isArrayOf_alike hZ.alike Ar7.2.1) Ar7.2.2 hin7 hat7 (g := (mkF m 17 #[.val (.ref a1), .val (.ref a2), .val (.int 1)] [(.int 1), (.ref a1)])) rfl rfl (hb hby d25_17) t k) ?_
  refine Wp.back (U' := (s₁.setTop (mkF m 20 #[.val (.ref a1), .val (.ref a2), .val (.int 1)] [(.int 1), (.ref a2), (.int v1)]))) (fun t k => XS.aloadN X0.here hx rfl (hb hby d25_18) rfl rfl (XS.iloadN X0.here hx rfl (hb hby d25_19) rfl k)) ?_
  have vq8 := H1
  obtain ⟨cl8, Ar8, qa8, qs8, qn8, qh8, qg8⟩ := vq8
  have hin8 : ¬ ((1 : Int32) < 0 ∨ cl8.slots.size ≤ ((1 : Int32)).toNatClampNeg) := inb_of qs8 ⟨by decide, by decide⟩
  have hat8 : cl8.slots[((1 : Int32)).toNatClampNeg]? = some (.int v1) := Has.at qh8 hin8 rfl
  refine Wp.back (U' := (s₁.setTop (mkF m 21 #[.val (.ref a1), .val (.ref a2), .val (.int 1)] [(.int v1), (.int v1)]))) (fun t k => X0.baloadBytes hx (j := (1 : Int32)) (v := (.int v1)) (by rw [e0]; exact Ar8.1) (State.isArrayOf_alike hZ.alike Ar8.2.1) Ar8.2.2 hin8 hat8 (g := (mkF m 20 #[.val (.ref a1), .val (.ref a2), .val (.int 1)] [(.int 1), (.ref a2), (.int v1)])) rfl rfl (hb hby d25_20) t k) ?_
  refine Wp.back (U' := (s₁.setTop (mkF m 11 #[.val (.ref a1), .val (.ref a2), .val (.int 2)] [(.ref a1), (.int 2)]))) (fun t k => XS.icmpYes X0.here hx rfl (pc0 := 21) (pc' := 26) rfl (hb hby d25_21) rfl (teq (rfl : v1 = v1)).1 (by decide) (by decide) (XT.iincV X0.here hx rfl 1 (hb hby d25_26) (by decide) rfl (l' := #[.val (.ref a1), .val (.ref a2), .val (.int 2)]) rfl (XS.goto X0.here hx rfl (pc0 := 29) (pc' := 9) rfl (hb hby d25_29) (by decide) (by decide) (XS.iloadN X0.here hx rfl (hb hby d25_9) rfl (XS.aloadN X0.here hx rfl (hb hby d25_10) rfl rfl k))))) ?_
  have vq9 := H0
  obtain ⟨cl9, Ar9, -, qs9, qn9, -, -⟩ := vq9
  refine Wp.back (U' := (s₁.setTop (mkF m 12 #[.val (.ref a1), .val (.ref a2), .val (.int 2)] [(.int 4), (.int 2)]))) (fun t k => X0.arraylength hx (by rw [e0]; exact Ar9.1) (State.isArrayOf_alike hZ.alike Ar9.2.1) (g := (mkF m 11 #[.val (.ref a1), .val (.ref a2), .val (.int 2)] [(.ref a1), (.int 2)])) rfl rfl (hb hby d25_11) t (by rw [len_of qs9 qn9]; exact k)) ?_
  refine Wp.back (U' := (s₁.setTop (mkF m 17 #[.val (.ref a1), .val (.ref a2), .val (.int 2)] [(.int 2), (.ref a1)]))) (fun t k => XS.icmpNo X0.here hx rfl (hb hby d25_12) rfl (tlt (by decide)).2.1 (XS.aloadN X0.here hx rfl (hb hby d25_15) rfl rfl (XS.iloadN X0.here hx rfl (hb hby d25_16) rfl k))) ?_
  have vq10 := H0
  obtain ⟨cl10, Ar10, qa10, qs10, qn10, qh10, qg10⟩ := vq10
  have hin10 : ¬ ((2 : Int32) < 0 ∨ cl10.slots.size ≤ ((2 : Int32)).toNatClampNeg) := inb_of qs10 ⟨by decide, by decide⟩
  have hat10 : cl10.slots[((2 : Int32)).toNatClampNeg]? = some (.int v2) := Has.at qh10 hin10 rfl
  refine Wp.back (U' := (s₁.setTop (mkF m 18 #[.val (.ref a1), .val (.ref a2), .val (.int 2)] [(.int v2)]))) (fun t k => X0.baloadBytes hx (j := (2 : Int32)) (v := (.int v2)) (by rw [e0]; exact Ar10.1) (State.isArrayOf_alike hZ.alike Ar10.2.1) Ar10.2.2 hin10 hat10 (g := (mkF m 17 #[.val (.ref a1), .val (.ref a2), .val (.int 2)] [(.int 2), (.ref a1)])) rfl rfl (hb hby d25_17) t k) ?_
  refine Wp.back (U' := (s₁.setTop (mkF m 20 #[.val (.ref a1), .val (.ref a2), .val (.int 2)] [(.int 2), (.ref a2), (.int v2)]))) (fun t k => XS.aloadN X0.here hx rfl (hb hby d25_18) rfl rfl (XS.iloadN X0.here hx rfl (hb hby d25_19) rfl k)) ?_
  have vq11 := H1
  obtain ⟨cl11, Ar11, qa11, qs11, qn11, qh11, qg11⟩ := vq11
  have hin11 : ¬ ((2 : Int32) < 0 ∨ cl11.slots.size ≤ ((2 : Int32)).toNatClampNeg) := inb_of qs11 ⟨by decide, by decide⟩
  have hat11 : cl11.slots[((2 : Int32)).toNatClampNeg]? = some (.int v2) := Has.at qh11 hin11 rfl
  refine Wp.back (U' := (s₁.setTop (mkF m 21 #[.val (.ref a1), .val (.ref a2), .val (.int 2)] [(.int v2), (.int v2)]))) (fun t k => X0.baloadBytes hx (j := (2 : Int32)) (v := (.int v2)) (by rw [e0]; exact Ar11.1) (State.isArrayOf_alike hZ.alike Ar11.2.1) Ar11.2.2 hin11 hat11 (g := (mkF m 20 #[.val (.ref a1), .val (.ref a2), .val (.int 2)] [(.int 2), (.ref a2), (.int v2)])) rfl rfl (hb hby d25_20) t k) ?_
  refine Wp.back (U' := (s₁.setTop (mkF m 11 #[.val (.ref a1), .val (.ref a2), .val (.int 3)] [(.ref a1), (.int 3)]))) (fun t k => XS.icmpYes X0.here hx rfl (pc0 := 21) (pc' := 26) rfl (hb hby d25_21) rfl (teq (rfl : v2 = v2)).1 (by decide) (by decide) (XT.iincV X0.here hx rfl 1 (hb hby d25_26) (by decide) rfl (l' := #[.val (.ref a1), .val (.ref a2), .val (.int 3)]) rfl (XS.goto X0.here hx rfl (pc0 := 29) (pc' := 9) rfl (hb hby d25_29) (by decide) (by decide) (XS.iloadN X0.here hx rfl (hb hby d25_9) rfl (XS.aloadN X0.here hx rfl (hb hby d25_10) rfl rfl k))))) ?_
  have vq12 := H0
  obtain ⟨cl12, Ar12, -, qs12, qn12, -, -⟩ := vq12
  refine Wp.back (U' := (s₁.setTop (mkF m 12 #[.val (.ref a1), .val (.ref a2), .val (.int 3)] [(.int 4), (.int 3)]))) (fun t k => X0.arraylength hx (by rw [e0]; exact Ar12.1) (State.isArrayOf_alike hZ.alike Ar12.2.1) (g := (mkF m 11 #[.val (.ref a1), .val (.ref a2), .val (.int 3)] [(.ref a1), (.int 3)])) rfl rfl (hb hby d25_11) t (by rw [len_of qs12 qn12]; exact k)) ?_
  refine Wp.back (U' := (s₁.setTop (mkF m 17 #[.val (.ref a1), .val (.ref a2), .val (.int 3)] [(.int 3), (.ref a1)]))) (fun t k => XS.icmpNo X0.here hx rfl (hb hby d25_12) rfl (tlt (by decide)).2.1 (XS.aloadN X0.here hx rfl (hb hby d25_15) rfl rfl (XS.iloadN X0.here hx rfl (hb hby d25_16) rfl k))) ?_
  have vq13 := H0
  obtain ⟨cl13, Ar13, qa13, qs13, qn13, qh13, qg13⟩ := vq13
  have hin13 : ¬ ((3 : Int32) < 0 ∨ cl13.slots.size ≤ ((3 : Int32)).toNatClampNeg) := inb_of qs13 ⟨by decide, by decide⟩
  have hat13 : cl13.slots[((3 : Int32)).toNatClampNeg]? = some (.int v3) := Has.at qh13 hin13 rfl
  refine Wp.back (U' := (s₁.setTop (mkF m 18 #[.val (.ref a1), .val (.ref a2), .val (.int 3)] [(.int v3)]))) (fun t k => X0.baloadBytes hx (j := (3 : Int32)) (v := (.int v3)) (by rw [e0]; exact Ar13.1) (State.isArrayOf_alike hZ.alike Ar13.2.1) Ar13.2.2 hin13 hat13 (g := (mkF m 17 #[.val (.ref a1), .val (.ref a2), .val (.int 3)] [(.int 3), (.ref a1)])) rfl rfl (hb hby d25_17) t k) ?_
  refine Wp.back (U' := (s₁.setTop (mkF m 20 #[.val (.ref a1), .val (.ref a2), .val (.int 3)] [(.int 3), (.ref a2), (.int v3)]))) (fun t k => XS.aloadN X0.here hx rfl (hb hby d25_18) rfl rfl (XS.iloadN X0.here hx rfl (hb hby d25_19) rfl k)) ?_
  have vq14 := H1
  obtain ⟨cl14, Ar14, qa14, qs14, qn14, qh14, qg14⟩ := vq14
  have hin14 : ¬ ((3 : Int32) < 0 ∨ cl14.slots.size ≤ ((3 : Int32)).toNatClampNeg) := inb_of qs14 ⟨by decide, by decide⟩
  have hat14 : cl14.slots[((3 : Int32)).toNatClampNeg]? = some (.int v3) := Has.at qh14 hin14 rfl
  refine Wp.back (U' := (s₁.setTop (mkF m 21 #[.val (.ref a1), .val (.ref a2), .val (.int 3)] [(.int v3), (.int v3)]))) (fun t k => X0.baloadBytes hx (j := (3 : Int32)) (v := (.int v3)) (by rw [e0]; exact Ar14.1) (State.isArrayOf_alike hZ.alike Ar14.2.1) Ar14.2.2 hin14 hat14 (g := (mkF m 20 #[.val (.ref a1), .val (.ref a2), .val (.int 3)] [(.int 3), (.ref a2), (.int v3)])) rfl rfl (hb hby d25_20) t k) ?_
  refine Wp.back (U' := (s₁.setTop (mkF m 11 #[.val (.ref a1), .val (.ref a2), .val (.int 4)] [(.ref a1), (.int 4)]))) (fun t k => XS.icmpYes X0.here hx rfl (pc0 := 21) (pc' := 26) rfl (hb hby d25_21) rfl (teq (rfl : v3 = v3)).1 (by decide) (by decide) (XT.iincV X0.here hx rfl 1 (hb hby d25_26) (by decide) rfl (l' := #[.val (.ref a1), .val (.ref a2), .val (.int 4)]) rfl (XS.goto X0.here hx rfl (pc0 := 29) (pc' := 9) rfl (hb hby d25_29) (by decide) (by decide) (XS.iloadN X0.here hx rfl (hb hby d25_9) rfl (XS.aloadN X0.here hx rfl (hb hby d25_10) rfl rfl k))))) ?_
  have vq15 := H0
  obtain ⟨cl15, Ar15, -, qs15, qn15, -, -⟩ := vq15
  refine Wp.back (U' := (s₁.setTop (mkF m 12 #[.val (.ref a1), .val (.ref a2), .val (.int 4)] [(.int 4), (.int 4)]))) (fun t k => X0.arraylength hx (by rw [e0]; exact Ar15.1) (State.isArrayOf_alike hZ.alike Ar15.2.1) (g := (mkF m 11 #[.val (.ref a1), .val (.ref a2), .val (.int 4)] [(.ref a1), (.int 4)])) rfl rfl (hb hby d25_11) t (by rw [len_of qs15 qn15]; exact k)) ?_
  refine Wp.back (U' := (s₁.setTop (mkF m 33 #[.val (.ref a1), .val (.ref a2), .val (.int 4)] [(.int 1)]))) (fun t k => XS.icmpYes X0.here hx rfl (pc0 := 12) (pc' := 32) rfl (hb hby d25_12) rfl (flt (by decide)).2.1 (by decide) (by decide) (XT.iconstV X0.here hx rfl 1 (hb hby d25_32) (by decide) k)) ?_
  obtain ⟨fs, hr, hrun, hended, hW, hsame⟩ := X0.leave (v := (some (.int 1))) (fun h => by rw [hret] at h; cases h)
  refine Wp.done (retN X0 hx (t := .boolean) hret (by simp) (hb hby d25_33) hr) hrun hended ⟨_, _, rfl, ?_, ⟨_, rfl⟩, hW, hsame.mono (by decide) (by decide)⟩
  show Q_le4 Z a1 a2 k1 k2 v0 v1 v2 v3 h0 n0 _ s₁.heap _
  rw [e0]
  exact ⟨rfl, N0, (Keep.refl h0 [])⟩
def own_EQ (n : Int32) (vs : List Value) : Prop := (n = (1 : Int32) ∧ ∃ v0 : Int32, vs = [(.int v0)]) ∨ (n = (2 : Int32) ∧ ∃ v0 : Int32, ∃ v1 : Int32, vs = [(.int v0), (.int v1)]) ∨ (n = (3 : Int32) ∧ ∃ v0 : Int32, ∃ v1 : Int32, ∃ v2 : Int32, vs = [(.int v0), (.int v1), (.int v2)]) ∨ (n = (4 : Int32) ∧ ∃ v0 : Int32, ∃ v1 : Int32, ∃ v2 : Int32, ∃ v3 : Int32, vs = [(.int v0), (.int v1), (.int v2), (.int v3)])
theorem own_q1 {v0 : Int32} : own_EQ (1 : Int32) [(.int v0)] := Or.inl ⟨rfl, _, rfl⟩
theorem own_q2 {v0 v1 : Int32} : own_EQ (2 : Int32) [(.int v0), (.int v1)] := Or.inr (Or.inl ⟨rfl, _, _, rfl⟩)
theorem own_q3 {v0 v1 v2 : Int32} : own_EQ (3 : Int32) [(.int v0), (.int v1), (.int v2)] := Or.inr (Or.inr (Or.inl ⟨rfl, _, _, _, rfl⟩))
theorem own_q4 {v0 v1 v2 v3 : Int32} : own_EQ (4 : Int32) [(.int v0), (.int v1), (.int v2), (.int v3)] := Or.inr (Or.inr (Or.inr (⟨rfl, _, _, _, _, rfl⟩)))
def Q_leg (h0 : Heap) (n0 : Nat) (v : Option Value) (h : Heap) (L : List Loc) : Prop := v = some (.int 1) ∧ Fr n0 L ∧ Keep h0 h []
theorem rm_leg (l : Launch) (Z : State) (a0 : Array Value) (hw : ∀ d ∈ tables_1, d.before a0 Z = true) (ws : List Jvm.Cond) (a1 a2 : Addr) (k1 k2 : ClassId) (n : Int32) (vs : List Value) (h0 : Heap) (n0 : Nat) (Z0 : n0 ≤ h0.size) (H0 : Arv Z h0 a1 k1 .byte n vs (.int 0)) (H1 : Arv Z h0 a2 k2 .byte n vs (.int 0)) (heq : own_EQ n vs) :
    Met l Z Y28 jdk_43_method_13_code 3 (some .boolean) ws ({ frames := 0, cells := 0, slots := 0, locals := 0 } : Room) #[(.ref a1), (.ref a2)] h0 (Q_leg h0 n0) := by
  rcases heq with ⟨rfl, v0, rfl⟩ | ⟨rfl, v0, v1, rfl⟩ | ⟨rfl, v0, v1, v2, rfl⟩ | ⟨rfl, v0, v1, v2, v3, rfl⟩
  · exact rm_le1 l Z a0 hw ws a1 a2 k1 k2 v0 h0 n0 Z0 H0 H1
  · exact rm_le2 l Z a0 hw ws a1 a2 k1 k2 v0 v1 h0 n0 Z0 H0 H1
  · exact rm_le3 l Z a0 hw ws a1 a2 k1 k2 v0 v1 v2 h0 n0 Z0 H0 H1
  · exact rm_le4 l Z a0 hw ws a1 a2 k1 k2 v0 v1 v2 v3 h0 n0 Z0 H0 H1
def Q_eqg (Z : State) (ar : Addr) (br : Addr) (a1 : Addr) (a2 : Addr) (k1 : ClassId) (k2 : ClassId) (cs : Int32) (nn : Int32) (vs : List Value) (h0 : Heap) (n0 : Nat) (v : Option Value) (h : Heap) (L : List Loc) : Prop := v = some (.int 1) ∧ Fr n0 L ∧ Keep h0 h []
theorem d24_0 : decode jdk_42_method_66_code 0 = .ok (.aload_n 0, 1) := by decide +kernel
theorem d24_1 : decode jdk_42_method_66_code 1 = .ok (.aload_n 1, 1) := by decide +kernel
theorem d24_2 : decode jdk_42_method_66_code 2 = .ok (.if_acmp .ne 5, 3) := by decide +kernel
theorem d24_7 : decode jdk_42_method_66_code 7 = .ok (.aload_n 1, 1) := by decide +kernel
theorem d24_8 : decode jdk_42_method_66_code 8 = .ok (.instanceof 10, 3) := by decide +kernel
theorem d24_11 : decode jdk_42_method_66_code 11 = .ok (.ifCond .eq 43, 3) := by decide +kernel
theorem d24_14 : decode jdk_42_method_66_code 14 = .ok (.aload_n 1, 1) := by decide +kernel
theorem d24_15 : decode jdk_42_method_66_code 15 = .ok (.checkcast 10, 3) := by decide +kernel
theorem d24_18 : decode jdk_42_method_66_code 18 = .ok (.astore_n 2, 1) := by decide +kernel
theorem d24_19 : decode jdk_42_method_66_code 19 = .ok (.getstatic 38, 3) := by decide +kernel
theorem d24_22 : decode jdk_42_method_66_code 22 = .ok (.ifCond .eq 14, 3) := by decide +kernel
theorem d24_25 : decode jdk_42_method_66_code 25 = .ok (.aload_n 0, 1) := by decide +kernel
theorem d24_26 : decode jdk_42_method_66_code 26 = .ok (.getfield 15, 3) := by decide +kernel
theorem d24_29 : decode jdk_42_method_66_code 29 = .ok (.aload_n 2, 1) := by decide +kernel
theorem d24_30 : decode jdk_42_method_66_code 30 = .ok (.getfield 15, 3) := by decide +kernel
theorem d24_33 : decode jdk_42_method_66_code 33 = .ok (.if_icmp .ne 21, 3) := by decide +kernel
theorem d24_36 : decode jdk_42_method_66_code 36 = .ok (.aload_n 0, 1) := by decide +kernel
theorem d24_37 : decode jdk_42_method_66_code 37 = .ok (.getfield 9, 3) := by decide +kernel
theorem d24_40 : decode jdk_42_method_66_code 40 = .ok (.aload_n 2, 1) := by decide +kernel
theorem d24_41 : decode jdk_42_method_66_code 41 = .ok (.getfield 9, 3) := by decide +kernel
theorem d24_44 : decode jdk_42_method_66_code 44 = .ok (.invokestatic 541, 3) := by decide +kernel
theorem d24_47 : decode jdk_42_method_66_code 47 = .ok (.ifCond .eq 7, 3) := by decide +kernel
theorem d24_50 : decode jdk_42_method_66_code 50 = .ok (.iconst 1, 1) := by decide +kernel
theorem d24_51 : decode jdk_42_method_66_code 51 = .ok (.goto 4, 3) := by decide +kernel
theorem d24_55 : decode jdk_42_method_66_code 55 = .ok (.ireturn, 1) := by decide +kernel
theorem pd_23 : parseMethodDescriptor "([B[B)Z" = some ⟨[(.array .byte), (.array .byte)], some .boolean⟩ := by decide +kernel
theorem pn24 : plainName "java/lang/String" = true := by first | (simp [plainName, overriddenIn]; done) | decide +kernel
theorem ef24_RR (m : MethodId) (x0 : Addr) (x1 : Addr) : entryFrame m #[(.ref x0), (.ref x1)] 3 = mkF m 0 #[.val (.ref x0), .val (.ref x1), .unset] [] := by first | (simp [entryFrame, mkF, argsToLocals, Value.category]; done) | rfl
set_option maxRecDepth 65536 in
set_option maxHeartbeats 40000000 in
theorem rm_eqg (l : Launch) (Z : State) (a0 : Array Value) (hw : ∀ d ∈ tables_1, d.before a0 Z = true) (ws : List Jvm.Cond) (ar : Addr) (br : Addr) (a1 : Addr) (a2 : Addr) (k1 : ClassId) (k2 : ClassId) (cs : Int32) (nn : Int32) (vs : List Value) (h0 : Heap) (n0 : Nat) (Z0 : n0 ≤ h0.size) (H0 : Exa Z h0 ar "java/lang/String") (H1 : Fld Z h0 ar "java/lang/String" "value" "[B" (.ref a1)) (H2 : Fld Z h0 ar "java/lang/String" "coder" "B" (.int 0)) (H3 : Arv Z h0 a1 k1 .byte nn vs (.int 0)) (H4 : Exa Z h0 br "java/lang/String") (H5 : Fld Z h0 br "java/lang/String" "value" "[B" (.ref a2)) (H6 : Fld Z h0 br "java/lang/String" "coder" "B" (.int 0)) (H7 : Arv Z h0 a2 k2 .byte nn vs (.int 0)) (H8 : Sta Z h0 "java/lang/String" "COMPACT_STRINGS" "Z" (.int cs)) (ne_ar_br : ar ≠ br) (heq : own_EQ nn vs) (hcs : ¬ cs = (0 : Int32)) :
    Met l Z Y29 jdk_42_method_66_code 3 (some .boolean) ws ({ frames := 1, cells := 0, slots := 0, locals := 14 } : Room) #[(.ref ar), (.ref br)] h0 (Q_eqg Z ar br a1 a2 k1 k2 cs nn vs h0 n0) := by
  refine own_body (plainFor_of_name pn24) ?_
  intro p e s m below meth c s₁ hx hby hret hlk hml hZ hown hnm X0 e0
  have N0 := Fr.nil n0
  refine Wp.back (U' := (s₁.setTop (mkF m 0 #[.val (.ref ar), .val (.ref br), .unset] []))) (fun t k => castTop (ef24_RR m ar br) k) ?_
  refine Wp.back (U' := (s₁.setTop (mkF m 2 #[.val (.ref ar), .val (.ref br), .unset] [(.ref br), (.ref ar)]))) (fun t k => XS.aloadN X0.here hx rfl (hb hby d24_0) rfl rfl (XS.aloadN X0.here hx rfl (hb hby d24_1) rfl rfl k)) ?_
  refine Wp.back (U' := (s₁.setTop (mkF m 7 #[.val (.ref ar), .val (.ref br), .unset] []))) (fun t k => Jvm.RoadKit.acmp (g := (mkF m 2 #[.val (.ref ar), .val (.ref br), .unset] [(.ref br), (.ref ar)])) X0 hx rfl rfl rfl (pc0 := 2) (pc' := 7) (same := false) rfl (hb hby d24_2) rfl (decide_eq_false fun q => ne_ar_br (Value.ref.inj q)) (by decide) (by decide) k) ?_
  refine Wp.back (U' := (s₁.setTop (mkF m 8 #[.val (.ref ar), .val (.ref br), .unset] [(.ref br)]))) (fun t k => XS.aloadN X0.here hx rfl (hb hby d24_7) rfl rfl k) ?_
  obtain ⟨T1, X1, e1, st1⟩ := instY X0 hx hZ hown (ow hw 112 rfl) e0 (Ins.self H4) (g := (mkF m 8 #[.val (.ref ar), .val (.ref br), .unset] [(.ref br)])) rfl rfl (hb hby d24_8)
  refine Wp.back (U' := (T1.setTop (mkF m 11 #[.val (.ref ar), .val (.ref br), .unset] [(.int 1)]))) st1 ?_
  refine Wp.back (U' := (T1.setTop (mkF m 15 #[.val (.ref ar), .val (.ref br), .unset] [(.ref br)]))) (fun t k => XS.ifNo X1.here hx rfl (hb hby d24_11) rfl ((if0 _ _).trans (feq (by decide)).1) (XS.aloadN X1.here hx rfl (hb hby d24_14) rfl rfl k)) ?_
  obtain ⟨T2, X2, e2, st2⟩ := castY X1 hx hZ hown (ow hw 112 rfl) e1 (Ins.self H4) (g := (mkF m 15 #[.val (.ref ar), .val (.ref br), .unset] [(.ref br)])) rfl rfl (hb hby d24_15)
  refine Wp.back (U' := (T2.setTop (mkF m 18 #[.val (.ref ar), .val (.ref br), .unset] [(.ref br)]))) st2 ?_
  refine Wp.back (U' := (T2.setTop (mkF m 19 #[.val (.ref ar), .val (.ref br), .val (.ref br)] []))) (fun t k => XS.astoreN X2.here hx rfl (hb hby d24_18) rfl rfl (l' := #[.val (.ref ar), .val (.ref br), .val (.ref br)]) rfl k) ?_
  obtain ⟨T3, X3, e3, st3⟩ := getS2 X2 hx hZ hown (host := "") (Or.inl (ow hw 22 rfl)) Via.refl e2 H8 (g := (mkF m 19 #[.val (.ref ar), .val (.ref br), .val (.ref br)] [])) rfl (hb hby d24_19)
  refine Wp.back (U' := (T3.setTop (mkF m 22 #[.val (.ref ar), .val (.ref br), .val (.ref br)] [(.int cs)]))) st3 ?_
  refine Wp.back (U' := (T3.setTop (mkF m 26 #[.val (.ref ar), .val (.ref br), .val (.ref br)] [(.ref ar)]))) (fun t k => XS.ifNo X3.here hx rfl (hb hby d24_22) rfl ((if0 _ _).trans (feq hcs).1) (XS.aloadN X3.here hx rfl (hb hby d24_25) rfl rfl k)) ?_
  obtain ⟨T4, X4, e4, st4⟩ := getF X3 hx hZ hown (host := "") (Or.inl (ow hw 34 rfl)) Via.refl e3 H2 (g := (mkF m 26 #[.val (.ref ar), .val (.ref br), .val (.ref br)] [(.ref ar)])) rfl rfl (hb hby d24_26)
  refine Wp.back (U' := (T4.setTop (mkF m 29 #[.val (.ref ar), .val (.ref br), .val (.ref br)] [(.int 0)]))) st4 ?_
  refine Wp.back (U' := (T4.setTop (mkF m 30 #[.val (.ref ar), .val (.ref br), .val (.ref br)] [(.ref br), (.int 0)]))) (fun t k => XS.aloadN X4.here hx rfl (hb hby d24_29) rfl rfl k) ?_
  obtain ⟨T5, X5, e5, st5⟩ := getF X4 hx hZ hown (host := "") (Or.inl (ow hw 34 rfl)) Via.refl e4 H6 (g := (mkF m 30 #[.val (.ref ar), .val (.ref br), .val (.ref br)] [(.ref br), (.int 0)])) rfl rfl (hb hby d24_30)
  refine Wp.back (U' := (T5.setTop (mkF m 33 #[.val (.ref ar), .val (.ref br), .val (.ref br)] [(.int 0), (.int 0)]))) st5 ?_
  refine Wp.back (U' := (T5.setTop (mkF m 37 #[.val (.ref ar), .val (.ref br), .val (.ref br)] [(.ref ar)]))) (fun t k => XS.icmpNo X5.here hx rfl (hb hby d24_33) rfl (teq (by decide)).2 (XS.aloadN X5.here hx rfl (hb hby d24_36) rfl rfl k)) ?_
  obtain ⟨T6, X6, e6, st6⟩ := getF X5 hx hZ hown (host := "") (Or.inl (ow hw 36 rfl)) Via.refl e5 H1 (g := (mkF m 37 #[.val (.ref ar), .val (.ref br), .val (.ref br)] [(.ref ar)])) rfl rfl (hb hby d24_37)
  refine Wp.back (U' := (T6.setTop (mkF m 40 #[.val (.ref ar), .val (.ref br), .val (.ref br)] [(.ref a1)]))) st6 ?_
  refine Wp.back (U' := (T6.setTop (mkF m 41 #[.val (.ref ar), .val (.ref br), .val (.ref br)] [(.ref br), (.ref a1)]))) (fun t k => XS.aloadN X6.here hx rfl (hb hby d24_40) rfl rfl k) ?_
  obtain ⟨T7, X7, e7, st7⟩ := getF X6 hx hZ hown (host := "") (Or.inl (ow hw 36 rfl)) Via.refl e6 H5 (g := (mkF m 41 #[.val (.ref ar), .val (.ref br), .val (.ref br)] [(.ref br), (.ref a1)])) rfl rfl (hb hby d24_41)
  refine Wp.back (U' := (T7.setTop (mkF m 44 #[.val (.ref ar), .val (.ref br), .val (.ref br)] [(.ref a2), (.ref a1)]))) st7 ?_
  obtain ⟨_, _, ⟨T8, L8, k8, n8⟩, -, X8, ⟨Lc8, hQ8, l8, y8, z8⟩, st8⟩ := Jvm.LawKit.callS X7 hx (y := Y28) hown (mvT hZ (ow hw 113 rfl)) (mvT hZ (ow hw 114 rfl)) (mvT hZ (ow hw 83 rfl)) (mvT hZ (ow hw 115 rfl)) (by decide) (backOf (W := 0) (rm_leg l Z a0 hw [] a1 a2 k1 k2 nn vs h0 n0 Z0 H3 H7 heq) hZ (ow hw 115 rfl) (ow hw 83 rfl) (by decide) (by decide)) (g := (mkF m 44 #[.val (.ref ar), .val (.ref br), .val (.ref br)] [(.ref a2), (.ref a1)])) rfl (by rw [hml]; rfl) (argsL := [(.ref a1), (.ref a2)]) (rest := []) (lenOf pd_23 rfl) rfl (Nat.le_of_eq rfl) (hb hby d24_44) (fun _ _ => ⟨rfl, e7, (by decide : 0 + 0 ≤ _), (by decide : 0 + 0 ≤ _)⟩)
  dsimp only [Pt.U, Pt.locs, Pt.cells, Pt.slots] at X8 l8 y8 z8 st8 hQ8
  subst l8 y8 z8
  obtain ⟨rfl, N8q, K8⟩ := hQ8
  have f9_0 := Nat.le_trans Z0 K8.1
  have f9_1 := H0.keep K8
  have f9_2 := H1.keep K8 nin0
  have f9_3 := H2.keep K8 nin0
  have f9_4 := H3.keep K8 nin0
  have f9_5 := H4.keep K8
  have f9_6 := H5.keep K8 nin0
  have f9_7 := H6.keep K8 nin0
  have f9_8 := H7.keep K8 nin0
  have f9_9 := Sta_keep0 H8 K8
  have f9_10 := (Keep.refl h0 []).trans K8 all0
  have N8 := Fr.app N0 N8q
  refine Wp.back (U' := (T8.setTop (mkF m 47 #[.val (.ref ar), .val (.ref br), .val (.ref br)] [(.int 1)]))) st8 ?_
  refine Wp.back (U' := (T8.setTop (mkF m 55 #[.val (.ref ar), .val (.ref br), .val (.ref br)] [(.int 1)]))) (fun t k => XS.ifNo X8.here hx rfl (hb hby d24_47) rfl ((if0 _ _).trans (feq (by decide)).1) (XT.iconstV X8.here hx rfl 1 (hb hby d24_50) (by decide) (XS.goto X8.here hx rfl (pc0 := 51) (pc' := 55) rfl (hb hby d24_51) (by decide) (by decide) k))) ?_
  obtain ⟨fs, hr, hrun, hended, hW, hsame⟩ := X8.leave (v := (some (.int 1))) (fun h => by rw [hret] at h; cases h)
  refine Wp.done (retN X8 hx (t := .boolean) hret (by simp) (hb hby d24_55) hr) hrun hended ⟨_, _, rfl, ?_, ⟨_, rfl⟩, hW, hsame.mono (by decide) (by decide)⟩
  show Q_eqg Z ar br a1 a2 k1 k2 cs nn vs h0 n0 _ T8.heap _
  exact ⟨rfl, N8, f9_10⟩
def own_tab (k : Fin 22) : Int32 := if k.val < 10 then Int32.ofNat (48 + k.val) else if k.val < 16 then Int32.ofNat (87 + k.val) else Int32.ofNat (49 + k.val)
def own_H (c : Int32) : Prop := ∃ k : Fin 22, c = own_tab k
theorem own_h1 {c : Int32} (h : own_H c) : ¬ (255 : Int32) < (nar .char c) := by
  obtain ⟨k, rfl⟩ := h
  revert k; decide +kernel
theorem own_h2 {c : Int32} (h : own_H c) : ¬ (f_ihd (nar .char (nar .char (((nar .byte ((nar .char c)).toInt8.toInt32) &&& (255 : Int32))).toUInt32.toUInt16.toUInt32.toInt32))) = (0 : Int32) := by
  obtain ⟨k, rfl⟩ := h
  revert k; decide +kernel
theorem own_h3 {c : Int32} (h : own_H c) : ¬ (nar .byte ((nar .char c)).toInt8.toInt32) = (10 : Int32) := by
  obtain ⟨k, rfl⟩ := h
  revert k; decide +kernel
theorem own_of (c : Int32) (h0 : 0 ≤ c.toInt) : c = Int32.ofNat c.toInt.toNat := by
  apply Int32.toInt_inj.mp
  have := rng32 c
  rw [show (Int32.ofNat c.toInt.toNat) = c.toInt.toNat.toInt32 from rfl, len_toInt (by omega)]
  omega
def own_g (y : Int32) : Int32 := (if y < (10 : Int32) then (nar .char (((48 : Int32) + y)).toUInt32.toUInt16.toUInt32.toInt32) else (if y < (16 : Int32) then (nar .char (((97 : Int32) + (y - (10 : Int32)))).toUInt32.toUInt16.toUInt32.toInt32) else (nar .char (((65 : Int32) + (y - (16 : Int32)))).toUInt32.toUInt16.toUInt32.toInt32)))
theorem own_hexf : ∀ k : Fin 22, ∃ j : Fin 22, (nar .char (own_g (Int32.ofNat k.val))) = own_tab j := by decide +kernel
theorem own_hex (p0 : Int32) : own_H (nar .char (f_hex p0)) := by
  have h1 := c_mask p0 2147483647 31 (by decide) (by decide)
  have h2 := (c_irem (p0 &&& 2147483647) 22 22 (by decide)).1 (by omega)
  have hb : 0 ≤ (((p0 &&& (2147483647 : Int32)) % (22 : Int32))).toInt ∧ (((p0 &&& (2147483647 : Int32)) % (22 : Int32))).toInt < 22 := by omega
  have h := own_hexf ⟨(((p0 &&& (2147483647 : Int32)) % (22 : Int32))).toInt.toNat, by omega⟩
  rw [show Int32.ofNat (⟨(((p0 &&& (2147483647 : Int32)) % (22 : Int32))).toInt.toNat, by omega⟩ : Fin 22).val = (((p0 &&& (2147483647 : Int32)) % (22 : Int32))) from (own_of _ hb.1).symm] at h
  exact h
theorem own_n (x : Int32) : ((1 : Int32) + (x &&& (3 : Int32))) = (1 : Int32) ∨ ((1 : Int32) + (x &&& (3 : Int32))) = (2 : Int32) ∨ ((1 : Int32) + (x &&& (3 : Int32))) = (3 : Int32) ∨ ((1 : Int32) + (x &&& (3 : Int32))) = (4 : Int32) := by
  have h1 := c_mask x 3 2 (by decide) (by decide)
  have h2 : (x &&& (3 : Int32)) = 0 ∨ (x &&& (3 : Int32)) = 1 ∨ (x &&& (3 : Int32)) = 2 ∨ (x &&& (3 : Int32)) = 3 := by
    have e0 : (0 : Int32).toInt = 0 := by decide
    have e1 : (1 : Int32).toInt = 1 := by decide
    have e2 : (2 : Int32).toInt = 2 := by decide
    have e3 : (3 : Int32).toInt = 3 := by decide
    simp only [← Int32.toInt_inj, e0, e1, e2, e3]
    omega
  rcases h2 with h | h | h | h <;> rw [h] <;> decide
theorem pd_24 : parseMethodDescriptor "([CI)Ljava/lang/String;" = some ⟨[(.array .char), .int], some (.object "java/lang/String")⟩ := by decide +kernel
theorem pd_25 : parseMethodDescriptor "(Ljava/lang/String;Ljava/lang/String;)Ljava/lang/String;" = some ⟨[(.object "java/lang/String"), (.object "java/lang/String")], some (.object "java/lang/String")⟩ := by decide +kernel
theorem pd_26 : parseMethodDescriptor "(Ljava/lang/Object;)Z" = some ⟨[(.object "java/lang/Object")], some .boolean⟩ := by decide +kernel
set_option maxRecDepth 65536 in
set_option maxHeartbeats 40000000 in
theorem own_t1_0 {p : Program} {l : Launch} {e : Env} {s : State} {m : MethodId} {args : Array Value} {below : List Frame} {meth : Method} {c : Code} {T0 : State} {locs : List Loc} {Z : State} {a0 : Array Value} {hA : Heap} {n0 : Nat} {vm0 : Vm} {kk : Nat} (p0 p1 p2 p3 p4 : Int32) (ta : Addr) (kt : ClassId) (c0 c1 c2 c3 cs : Int32) (fm : Value)
    (hx : p.tables.exec = Jvm.exec) (hw : ∀ d ∈ tables_1, d.before a0 Z = true) (hby : c.code = code) (hml : c.maxLocals = 11) (hret : meth.sig.returnType = ret) (hlk : meth.locks = false) (hZ : Z.Warmed39 (s.setVm vm0).vm) (hown : (s.setVm vm0).vm.findClass "com/example/surebit/surebit/input/HexNumberDigitsPinLaw" = some m.cls) (X0 : Stand p l e room_1 (s.setVm vm0) m args below meth c T0 locs 1 5) (e0 : T0.heap = hA) (N0 : Fr n0 locs) (Z0 : n0 ≤ hA.size) (hS0 : s.Since vm0 kk) (hk0 : kk ≤ hA.size) (PC : Sta Z hA "java/lang/String" "COMPACT_STRINGS" "Z" (.int cs)) (PF : Sta Z hA "jdk/internal/util/Preconditions" "SIOOBE_FORMATTER" "Ljava/util/function/BiFunction;" fm) (TA : Arv Z hA ta kt .char (5 : Int32) [(.int c0), (.int c1), (.int c2), (.int c3), (.int 10)] (.int 0)) (hCH : CHv Z consts_1 vm0 hA) (gta : n0 ≤ ta) (hcs : ¬ cs = (0 : Int32)) (isr_fm : fm.isRef = true) (hc0 : own_H c0) (hc1 : own_H c1) (hc2 : own_H c2) (hc3 : own_H c3) :
    Wp p e below (fun o s₂ => ∃ v L, o = .returned v ∧ QL n0 v s₂.heap L ∧ ReturnedEndW s o s₂ L 32 2240) (T0.setTop (mkF m 60 #[.val (.int p0), .val (.int p1), .val (.int p2), .val (.int p3), .val (.int p4), .val (.int 1), .val (.int 0), .val (.ref ta), .unset, .unset, .unset] [])) := by
  have hEL : EW Z a0 consts_1 := own_EW hw
  have wS := own_wS hw
  refine Wp.back (U' := (T0.setTop (mkF m 64 #[.val (.int p0), .val (.int p1), .val (.int p2), .val (.int p3), .val (.int p4), .val (.int 1), .val (.int 0), .val (.ref ta), .unset, .unset, .unset] [(.int 1), (.ref ta)]))) (fun t k => XS.aload X0.here hx rfl (hb hby at_60) rfl rfl (XS.iload X0.here hx rfl (hb hby at_62) rfl k)) ?_
  obtain ⟨_, _, ⟨T1, L1, k1, n1⟩, -, X1, ⟨Lc1, hQ1, l1, y1, z1⟩, st1⟩ := Jvm.LawKit.callS X0 hx (y := Y27) hown (mvT hZ (ow hw 6 rfl)) (mvT hZ (ow hw 7 rfl)) (mvT hZ (ow hw 3 rfl)) (mvT hZ (ow hw 8 rfl)) (by decide) (backOf (W := 0) (rm_tk1 l Z a0 hw [] ta kt c0 c1 c2 c3 (10 : Int32) cs hA n0 Z0 TA PC (own_h1 hc0) hcs) hZ (ow hw 8 rfl) (ow hw 3 rfl) (by decide) (by decide)) (g := (mkF m 64 #[.val (.int p0), .val (.int p1), .val (.int p2), .val (.int p3), .val (.int p4), .val (.int 1), .val (.int 0), .val (.ref ta), .unset, .unset, .unset] [(.int 1), (.ref ta)])) rfl (by rw [hml]; rfl) (argsL := [(.ref ta), (.int 1)]) (rest := []) (lenOf pd_24 rfl) rfl (Nat.le_of_eq rfl) (hb hby at_64) (fun _ _ => ⟨rfl, e0, (by decide : 1 + 3 ≤ _), (by decide : 5 + 70 ≤ _)⟩)
  dsimp only [Pt.U, Pt.locs, Pt.cells, Pt.slots] at X1 l1 y1 z1 st1 hQ1
  subst l1 y1 z1
  obtain ⟨b1_0, b1_1, k1_0, rfl, N1q, K1, sf1_0, sf1_1, o1_0, o1_1, o1_2, o1_3⟩ := hQ1
  have ne_ta_b1_0 : ta ≠ b1_0 := Nat.ne_of_lt (Nat.lt_of_lt_of_le TA.lt sf1_0)
  have g_b1_0 : n0 ≤ b1_0 := Nat.le_trans Z0 sf1_0
  have ne_ta_b1_1 : ta ≠ b1_1 := Nat.ne_of_lt (Nat.lt_of_lt_of_le TA.lt sf1_1)
  have g_b1_1 : n0 ≤ b1_1 := Nat.le_trans Z0 sf1_1
  have sf_b1_0 : Safe Z consts_1 vm0 hA b1_0 := Safe.new sf1_0
  have sf_b1_1 : Safe Z consts_1 vm0 hA b1_1 := Safe.new sf1_1
  have f2_0 := Nat.le_trans Z0 K1.1
  have f2_1 := Sta_keep0 PC K1
  have f2_2 := Sta_keep0 PF K1
  have f2_3 := TA.keep K1 nin0
  have f2_4 := CHv.keep K1 sf0 hCH
  have f2_5 := Nat.le_trans hk0 K1.1
  have f2_6 := Safe.keep K1 sf0 hCH sf_b1_0
  have f2_7 := Safe.keep K1 sf0 hCH sf_b1_1
  have N1 := Fr.app N0 N1q
  refine Wp.back (U' := (T1.setTop (mkF m 67 #[.val (.int p0), .val (.int p1), .val (.int p2), .val (.int p3), .val (.int p4), .val (.int 1), .val (.int 0), .val (.ref ta), .unset, .unset, .unset] [(.ref b1_0)]))) st1 ?_
  refine Wp.back (U' := (T1.setTop (mkF m 97 #[.val (.int p0), .val (.int p1), .val (.int p2), .val (.int p3), .val (.int p4), .val (.int 1), .val (.int 0), .val (.ref ta), .val (.ref b1_0), .unset, .unset] [(.int 1), (.ref ta)]))) (fun t k => XS.astore X1.here hx rfl (hb hby at_67) rfl rfl (l' := #[.val (.int p0), .val (.int p1), .val (.int p2), .val (.int p3), .val (.int p4), .val (.int 1), .val (.int 0), .val (.ref ta), .val (.ref b1_0), .unset, .unset]) rfl (XS.iload X1.here hx rfl (hb hby at_69) rfl (XS.ifYes X1.here hx rfl (pc0 := 71) (pc' := 81) rfl (hb hby at_71) rfl ((if0 _ _).trans (teq (by decide)).1) (by decide) (by decide) (XS.aload X1.here hx rfl (hb hby at_81) rfl rfl (XS.iload X1.here hx rfl (hb hby at_83) rfl (XS.ifYes X1.here hx rfl (pc0 := 85) (pc' := 95) rfl (hb hby at_85) rfl ((if0 _ _).trans (teq (by decide)).1) (by decide) (by decide) (XS.iload X1.here hx rfl (hb hby at_95) rfl k))))))) ?_
  obtain ⟨_, _, ⟨T3, L3, k3, n3⟩, -, X3, ⟨Lc3, hQ3, l3, y3, z3⟩, st3⟩ := Jvm.LawKit.callS X1 hx (y := Y27) hown (mvT hZ (ow hw 6 rfl)) (mvT hZ (ow hw 7 rfl)) (mvT hZ (ow hw 3 rfl)) (mvT hZ (ow hw 8 rfl)) (by decide) (backOf (W := 0) (rm_tk1 l Z a0 hw [] ta kt c0 c1 c2 c3 (10 : Int32) cs T1.heap n0 f2_0 f2_3 f2_1 (own_h1 hc0) hcs) hZ (ow hw 8 rfl) (ow hw 3 rfl) (by decide) (by decide)) (g := (mkF m 97 #[.val (.int p0), .val (.int p1), .val (.int p2), .val (.int p3), .val (.int p4), .val (.int 1), .val (.int 0), .val (.ref ta), .val (.ref b1_0), .unset, .unset] [(.int 1), (.ref ta)])) rfl (by rw [hml]; rfl) (argsL := [(.ref ta), (.int 1)]) (rest := []) (lenOf pd_24 rfl) rfl (Nat.le_of_eq rfl) (hb hby at_97) (fun _ _ => ⟨rfl, rfl, (by decide : 4 + 3 ≤ _), (by decide : 75 + 70 ≤ _)⟩)
  dsimp only [Pt.U, Pt.locs, Pt.cells, Pt.slots] at X3 l3 y3 z3 st3 hQ3
  subst l3 y3 z3
  obtain ⟨b3_0, b3_1, k3_0, rfl, N3q, K3, sf3_0, sf3_1, o3_0, o3_1, o3_2, o3_3⟩ := hQ3
  have ne_ta_b3_0 : ta ≠ b3_0 := Nat.ne_of_lt (Nat.lt_of_lt_of_le f2_3.lt sf3_0)
  have ne_b1_0_b3_0 : b1_0 ≠ b3_0 := Nat.ne_of_lt (Nat.lt_of_lt_of_le o1_0.lt sf3_0)
  have ne_b1_1_b3_0 : b1_1 ≠ b3_0 := Nat.ne_of_lt (Nat.lt_of_lt_of_le o1_3.lt sf3_0)
  have g_b3_0 : n0 ≤ b3_0 := Nat.le_trans f2_0 sf3_0
  have ne_ta_b3_1 : ta ≠ b3_1 := Nat.ne_of_lt (Nat.lt_of_lt_of_le f2_3.lt sf3_1)
  have ne_b1_0_b3_1 : b1_0 ≠ b3_1 := Nat.ne_of_lt (Nat.lt_of_lt_of_le o1_0.lt sf3_1)
  have ne_b1_1_b3_1 : b1_1 ≠ b3_1 := Nat.ne_of_lt (Nat.lt_of_lt_of_le o1_3.lt sf3_1)
  have g_b3_1 : n0 ≤ b3_1 := Nat.le_trans f2_0 sf3_1
  have sf_b3_0 : Safe Z consts_1 vm0 T1.heap b3_0 := Safe.new sf3_0
  have sf_b3_1 : Safe Z consts_1 vm0 T1.heap b3_1 := Safe.new sf3_1
  have f4_0 := Nat.le_trans f2_0 K3.1
  have f4_1 := Sta_keep0 f2_1 K3
  have f4_2 := Sta_keep0 f2_2 K3
  have f4_3 := f2_3.keep K3 nin0
  have f4_4 := CHv.keep K3 sf0 f2_4
  have f4_5 := Nat.le_trans f2_5 K3.1
  have f4_6 := Safe.keep K3 sf0 f2_4 f2_6
  have f4_7 := Safe.keep K3 sf0 f2_4 f2_7
  have f4_8 := o1_0.keep K3
  have f4_9 := o1_1.keep K3 nin0
  have f4_10 := o1_2.keep K3 nin0
  have f4_11 := o1_3.keep K3 nin0
  have f4_12 := Safe.keep K3 sf0 f2_4 sf_b3_0
  have f4_13 := Safe.keep K3 sf0 f2_4 sf_b3_1
  have N3 := Fr.app N1 N3q
  refine Wp.back (U' := (T3.setTop (mkF m 100 #[.val (.int p0), .val (.int p1), .val (.int p2), .val (.int p3), .val (.int p4), .val (.int 1), .val (.int 0), .val (.ref ta), .val (.ref b1_0), .unset, .unset] [(.ref b3_0)]))) st3 ?_
  refine Wp.back (U' := (T3.setTop (mkF m 104 #[.val (.int p0), .val (.int p1), .val (.int p2), .val (.int p3), .val (.int p4), .val (.int 1), .val (.int 0), .val (.ref ta), .val (.ref b1_0), .val (.ref b3_0), .unset] [(.ref b3_0)]))) (fun t k => XS.astore X3.here hx rfl (hb hby at_100) rfl rfl (l' := #[.val (.int p0), .val (.int p1), .val (.int p2), .val (.int p3), .val (.int p4), .val (.int 1), .val (.int 0), .val (.ref ta), .val (.ref b1_0), .val (.ref b3_0), .unset]) rfl (XS.aload X3.here hx rfl (hb hby at_102) rfl rfl k)) ?_
  obtain ⟨a5, T5, h5, k5, b5, kc5, X5, e5, E5, hS5, hk5, hZ, hown, A5, C5, V5, K5, la5, lb5, R5, L5, Sf5, st5⟩ := ldcCH X3 hx hZ hown (ow hw 38 rfl) wS rfl hS0 f4_5 hEL (List.mem_of_getElem? (i := 1) rfl) f4_4 (vs := [(.int 115)]) (z := (1 : Int32)) ⟨by decide, rfl⟩ (by decide) rfl (g := (mkF m 104 #[.val (.int p0), .val (.int p1), .val (.int p2), .val (.int p3), .val (.int p4), .val (.int 1), .val (.int 0), .val (.ref ta), .val (.ref b1_0), .val (.ref b3_0), .unset] [(.ref b3_0)])) rfl (hb hby at_104) (n := 4) (by decide) (by decide) (by decide) (by decide)
  have f6_0 := Nat.le_trans f4_0 E5.1
  have f6_1 := f4_1.ext E5
  have f6_2 := f4_2.ext E5
  have f6_3 := f4_3.ext E5
  have f6_4 := R5.1
  have f6_5 := hk5
  have f6_6 := CHr.safe R5 f4_8.lt f4_6
  have f6_7 := CHr.safe R5 f4_11.lt f4_7
  have f6_8 := f4_8.ext E5
  have f6_9 := f4_9.ext E5
  have f6_10 := f4_10.ext E5
  have f6_11 := f4_11.ext E5
  have f6_12 := CHr.safe R5 o3_0.lt f4_12
  have f6_13 := CHr.safe R5 o3_3.lt f4_13
  have f6_14 := o3_0.ext E5
  have f6_15 := o3_1.ext E5
  have f6_16 := o3_2.ext E5
  have f6_17 := o3_3.ext E5
  have ne_b1_0_a5 : b1_0 ≠ a5 := (Sf5 _ f6_6).1
  have ne_b1_0_b5 : b1_0 ≠ b5 := (Sf5 _ f6_6).2
  have ne_b1_1_a5 : b1_1 ≠ a5 := (Sf5 _ f6_7).1
  have ne_b1_1_b5 : b1_1 ≠ b5 := (Sf5 _ f6_7).2
  have ne_b3_0_a5 : b3_0 ≠ a5 := (Sf5 _ f6_12).1
  have ne_b3_0_b5 : b3_0 ≠ b5 := (Sf5 _ f6_12).2
  have ne_b3_1_a5 : b3_1 ≠ a5 := (Sf5 _ f6_13).1
  have ne_b3_1_b5 : b3_1 ≠ b5 := (Sf5 _ f6_13).2
  refine Wp.back (U' := (T5.setTop (mkF m 106 #[.val (.int p0), .val (.int p1), .val (.int p2), .val (.int p3), .val (.int p4), .val (.int 1), .val (.int 0), .val (.ref ta), .val (.ref b1_0), .val (.ref b3_0), .unset] [(.ref a5), (.ref b3_0)]))) st5 ?_
  obtain ⟨_, _, ⟨T7, L7, k7, n7⟩, -, X7, hS7, gr7, ⟨Lc7, hQ7, l7, y7, z7, R7⟩, st7⟩ := callSS X5 hx (y := Y21) hown (mvT hZ (ow hw 41 rfl)) (mvT hZ (ow hw 42 rfl)) (mvT hZ (ow hw 43 rfl)) (mvT hZ (ow hw 44 rfl)) (by decide) (backOfSH (W := 0) (rm_dgn1 l Z a0 hw [] b3_0 a5 b3_1 cs fm k3_0 (nar .byte ((nar .char c0)).toInt8.toInt32) h5 n0 f6_0 f6_14 f6_15 f6_16 f6_17 f6_1 f6_2 isr_fm (own_h2 hc0) (own_h3 hc0) hcs) hZ (ow hw 44 rfl) (ow hw 43 rfl) (by decide) (by decide) hEL f6_4) (g := (mkF m 106 #[.val (.int p0), .val (.int p1), .val (.int p2), .val (.int p3), .val (.int p4), .val (.int 1), .val (.int 0), .val (.ref ta), .val (.ref b1_0), .val (.ref b3_0), .unset] [(.ref a5), (.ref b3_0)])) rfl (by rw [hml]; rfl) (argsL := [(.ref b3_0), (.ref a5)]) (rest := []) (lenOf pd_25 rfl) rfl (Nat.le_of_eq rfl) (hb hby at_106) (fun _ _ => ⟨rfl, e5, (by decide : 9 + 2 ≤ _), (by decide : 153 + 8 ≤ _)⟩)
  dsimp only [Pt.U, Pt.locs, Pt.cells, Pt.slots] at X7 l7 y7 z7 st7 hQ7 hS7 gr7 R7
  subst l7 y7 z7
  obtain ⟨X7, hS7, hZ, hown⟩ := rebS hS5 (by rw [e5]; exact f6_5) X7 hS7 gr7 hZ hown
  obtain ⟨rfl, N7q, K7⟩ := hQ7
  have f8_0 := Nat.le_trans f6_0 K7.1
  have f8_1 := Sta_keep0 f6_1 K7
  have f8_2 := Sta_keep0 f6_2 K7
  have f8_3 := f6_3.keep K7 nin0
  have f8_4 := R7.1
  have f8_5 := Nat.le_refl T7.heap.size
  have f8_6 := CHr.safe R7 f6_8.lt f6_6
  have f8_7 := CHr.safe R7 f6_11.lt f6_7
  have f8_8 := f6_8.keep K7
  have f8_9 := f6_9.keep K7 nin0
  have f8_10 := f6_10.keep K7 nin0
  have f8_11 := f6_11.keep K7 nin0
  have f8_12 := CHr.safe R7 f6_14.lt f6_12
  have f8_13 := CHr.safe R7 f6_17.lt f6_13
  have f8_14 := f6_14.keep K7
  have f8_15 := f6_15.keep K7 nin0
  have f8_16 := f6_16.keep K7 nin0
  have f8_17 := f6_17.keep K7 nin0
  have f8_18 := A5.keep K7
  have f8_19 := C5.keep K7 nin0
  have f8_20 := V5.keep K7 nin0
  have f8_21 := K5.keep K7 nin0
  have N7 := Fr.app N3 N7q
  refine Wp.back (U' := (T7.setTop (mkF m 109 #[.val (.int p0), .val (.int p1), .val (.int p2), .val (.int p3), .val (.int p4), .val (.int 1), .val (.int 0), .val (.ref ta), .val (.ref b1_0), .val (.ref b3_0), .unset] [(.ref b3_0)]))) (fun t k => st7.trans k) ?_
  refine Wp.back (U' := (T7.setTop (mkF m 115 #[.val (.int p0), .val (.int p1), .val (.int p2), .val (.int p3), .val (.int p4), .val (.int 1), .val (.int 0), .val (.ref ta), .val (.ref b1_0), .val (.ref b3_0), .val (.ref b3_0)] [(.ref b1_0), (.ref b3_0)]))) (fun t k => XS.astore X7.here hx rfl (hb hby at_109) rfl rfl (l' := #[.val (.int p0), .val (.int p1), .val (.int p2), .val (.int p3), .val (.int p4), .val (.int 1), .val (.int 0), .val (.ref ta), .val (.ref b1_0), .val (.ref b3_0), .val (.ref b3_0)]) rfl (XS.aload X7.here hx rfl (hb hby at_111) rfl rfl (XS.aload X7.here hx rfl (hb hby at_113) rfl rfl k))) ?_
  obtain ⟨cq9, kq9, q9a, q9b, q9c⟩ := isOf hZ rfl f8_14
  obtain ⟨_, _, ⟨T9, L9, k9, n9⟩, -, X9, ⟨Lc9, hQ9, l9, y9, z9⟩, st9⟩ := X7.virtualBack hx (y := Y29) (z := Y29) hown (mvT hZ (ow hw 107 rfl)) (mvT hZ (ow hw 108 rfl)) (notFace_of_selects (args := #[]) (mvT hZ (ow hw 110 rfl))) (mvT hZ (ow hw 110 rfl)) (mvT hZ (ow hw 109 rfl)) (by decide) (backOf (W := 0) (rm_eqg l Z a0 hw [] b3_0 b1_0 b3_1 b1_1 k3_0 k1_0 cs (1 : Int32) [(.int (nar .byte ((nar .char c0)).toInt8.toInt32))] T7.heap n0 f8_0 f8_14 f8_15 f8_16 f8_17 f8_8 f8_9 f8_10 f8_11 f8_1 (Ne.symm ne_b1_0_b3_0) own_q1 hcs) hZ (ow hw 111 rfl) (ow hw 11 rfl) (by decide) (by decide)) q9a q9c (g := (mkF m 115 #[.val (.int p0), .val (.int p1), .val (.int p2), .val (.int p3), .val (.int p4), .val (.int 1), .val (.int 0), .val (.ref ta), .val (.ref b1_0), .val (.ref b3_0), .val (.ref b3_0)] [(.ref b1_0), (.ref b3_0)])) rfl (by rw [hml]; rfl) (Steps.refl _) (argsL := [(.ref b1_0)]) (rest := []) (lenOf pd_26 rfl) rfl (Nat.le_of_eq rfl) (hb hby at_115) (fun _ _ => ⟨rfl, rfl, (by decide : 11 + 0 ≤ _), (by decide : 161 + 0 ≤ _)⟩)
  dsimp only [Pt.U, Pt.locs, Pt.cells, Pt.slots] at X9 l9 y9 z9 st9 hQ9
  subst l9 y9 z9
  obtain ⟨rfl, N9q, K9⟩ := hQ9
  have f10_0 := Nat.le_trans f8_0 K9.1
  have f10_1 := Sta_keep0 f8_1 K9
  have f10_2 := Sta_keep0 f8_2 K9
  have f10_3 := f8_3.keep K9 nin0
  have f10_4 := CHv.keep K9 sf0 f8_4
  have f10_5 := Nat.le_trans f8_5 K9.1
  have f10_6 := Safe.keep K9 sf0 f8_4 f8_6
  have f10_7 := Safe.keep K9 sf0 f8_4 f8_7
  have f10_8 := f8_8.keep K9
  have f10_9 := f8_9.keep K9 nin0
  have f10_10 := f8_10.keep K9 nin0
  have f10_11 := f8_11.keep K9 nin0
  have f10_12 := Safe.keep K9 sf0 f8_4 f8_12
  have f10_13 := Safe.keep K9 sf0 f8_4 f8_13
  have f10_14 := f8_14.keep K9
  have f10_15 := f8_15.keep K9 nin0
  have f10_16 := f8_16.keep K9 nin0
  have f10_17 := f8_17.keep K9 nin0
  have f10_18 := f8_18.keep K9
  have f10_19 := f8_19.keep K9 nin0
  have f10_20 := f8_20.keep K9 nin0
  have f10_21 := f8_21.keep K9 nin0
  have N9 := Fr.app N7 N9q
  refine Wp.back (U' := (T9.setTop (mkF m 118 #[.val (.int p0), .val (.int p1), .val (.int p2), .val (.int p3), .val (.int p4), .val (.int 1), .val (.int 0), .val (.ref ta), .val (.ref b1_0), .val (.ref b3_0), .val (.ref b3_0)] [(.int 1)]))) (fun t k => st9.trans k) ?_
  obtain ⟨fs, hr, hrun, hended, hend⟩ := X9.leaveW hS7 f10_5 (v := (some (.int 1))) (fun h => by rw [hret] at h; cases h)
  refine Wp.done (retN X9 hx (t := .boolean) hret (by simp) (hb hby at_118) hr) hrun hended ⟨_, _, rfl, ?_, hend.1, hend.2.1, hend.2.2.1, hend.2.2.2.mono (by decide) (by decide)⟩
  show QL n0 _ T9.heap _
  exact ⟨rfl, N9⟩
set_option maxRecDepth 65536 in
set_option maxHeartbeats 40000000 in
theorem own_t2_0 {p : Program} {l : Launch} {e : Env} {s : State} {m : MethodId} {args : Array Value} {below : List Frame} {meth : Method} {c : Code} {T0 : State} {locs : List Loc} {Z : State} {a0 : Array Value} {hA : Heap} {n0 : Nat} {vm0 : Vm} {kk : Nat} (p0 p1 p2 p3 p4 : Int32) (ta : Addr) (kt : ClassId) (c0 c1 c2 c3 cs : Int32) (fm : Value)
    (hx : p.tables.exec = Jvm.exec) (hw : ∀ d ∈ tables_1, d.before a0 Z = true) (hby : c.code = code) (hml : c.maxLocals = 11) (hret : meth.sig.returnType = ret) (hlk : meth.locks = false) (hZ : Z.Warmed39 (s.setVm vm0).vm) (hown : (s.setVm vm0).vm.findClass "com/example/surebit/surebit/input/HexNumberDigitsPinLaw" = some m.cls) (X0 : Stand p l e room_1 (s.setVm vm0) m args below meth c T0 locs 1 5) (e0 : T0.heap = hA) (N0 : Fr n0 locs) (Z0 : n0 ≤ hA.size) (hS0 : s.Since vm0 kk) (hk0 : kk ≤ hA.size) (PC : Sta Z hA "java/lang/String" "COMPACT_STRINGS" "Z" (.int cs)) (PF : Sta Z hA "jdk/internal/util/Preconditions" "SIOOBE_FORMATTER" "Ljava/util/function/BiFunction;" fm) (TA : Arv Z hA ta kt .char (5 : Int32) [(.int c0), (.int c1), (.int c2), (.int c3), (.int 10)] (.int 0)) (hCH : CHv Z consts_1 vm0 hA) (gta : n0 ≤ ta) (hcs : ¬ cs = (0 : Int32)) (isr_fm : fm.isRef = true) (hc0 : own_H c0) (hc1 : own_H c1) (hc2 : own_H c2) (hc3 : own_H c3) :
    Wp p e below (fun o s₂ => ∃ v L, o = .returned v ∧ QL n0 v s₂.heap L ∧ ReturnedEndW s o s₂ L 32 2240) (T0.setTop (mkF m 60 #[.val (.int p0), .val (.int p1), .val (.int p2), .val (.int p3), .val (.int p4), .val (.int 2), .val (.int 0), .val (.ref ta), .unset, .unset, .unset] [])) := by
  have hEL : EW Z a0 consts_1 := own_EW hw
  have wS := own_wS hw
  refine Wp.back (U' := (T0.setTop (mkF m 64 #[.val (.int p0), .val (.int p1), .val (.int p2), .val (.int p3), .val (.int p4), .val (.int 2), .val (.int 0), .val (.ref ta), .unset, .unset, .unset] [(.int 2), (.ref ta)]))) (fun t k => XS.aload X0.here hx rfl (hb hby at_60) rfl rfl (XS.iload X0.here hx rfl (hb hby at_62) rfl k)) ?_
  obtain ⟨_, _, ⟨T1, L1, k1, n1⟩, -, X1, ⟨Lc1, hQ1, l1, y1, z1⟩, st1⟩ := Jvm.LawKit.callS X0 hx (y := Y27) hown (mvT hZ (ow hw 6 rfl)) (mvT hZ (ow hw 7 rfl)) (mvT hZ (ow hw 3 rfl)) (mvT hZ (ow hw 8 rfl)) (by decide) (backOf (W := 0) (rm_tk2 l Z a0 hw [] ta kt c0 c1 c2 c3 (10 : Int32) cs hA n0 Z0 TA PC (own_h1 hc0) (own_h1 hc1) hcs) hZ (ow hw 8 rfl) (ow hw 3 rfl) (by decide) (by decide)) (g := (mkF m 64 #[.val (.int p0), .val (.int p1), .val (.int p2), .val (.int p3), .val (.int p4), .val (.int 2), .val (.int 0), .val (.ref ta), .unset, .unset, .unset] [(.int 2), (.ref ta)])) rfl (by rw [hml]; rfl) (argsL := [(.ref ta), (.int 2)]) (rest := []) (lenOf pd_24 rfl) rfl (Nat.le_of_eq rfl) (hb hby at_64) (fun _ _ => ⟨rfl, e0, (by decide : 1 + 3 ≤ _), (by decide : 5 + 71 ≤ _)⟩)
  dsimp only [Pt.U, Pt.locs, Pt.cells, Pt.slots] at X1 l1 y1 z1 st1 hQ1
  subst l1 y1 z1
  obtain ⟨b1_0, b1_1, k1_0, rfl, N1q, K1, sf1_0, sf1_1, o1_0, o1_1, o1_2, o1_3⟩ := hQ1
  have ne_ta_b1_0 : ta ≠ b1_0 := Nat.ne_of_lt (Nat.lt_of_lt_of_le TA.lt sf1_0)
  have g_b1_0 : n0 ≤ b1_0 := Nat.le_trans Z0 sf1_0
  have ne_ta_b1_1 : ta ≠ b1_1 := Nat.ne_of_lt (Nat.lt_of_lt_of_le TA.lt sf1_1)
  have g_b1_1 : n0 ≤ b1_1 := Nat.le_trans Z0 sf1_1
  have sf_b1_0 : Safe Z consts_1 vm0 hA b1_0 := Safe.new sf1_0
  have sf_b1_1 : Safe Z consts_1 vm0 hA b1_1 := Safe.new sf1_1
  have f2_0 := Nat.le_trans Z0 K1.1
  have f2_1 := Sta_keep0 PC K1
  have f2_2 := Sta_keep0 PF K1
  have f2_3 := TA.keep K1 nin0
  have f2_4 := CHv.keep K1 sf0 hCH
  have f2_5 := Nat.le_trans hk0 K1.1
  have f2_6 := Safe.keep K1 sf0 hCH sf_b1_0
  have f2_7 := Safe.keep K1 sf0 hCH sf_b1_1
  have N1 := Fr.app N0 N1q
  refine Wp.back (U' := (T1.setTop (mkF m 67 #[.val (.int p0), .val (.int p1), .val (.int p2), .val (.int p3), .val (.int p4), .val (.int 2), .val (.int 0), .val (.ref ta), .unset, .unset, .unset] [(.ref b1_0)]))) st1 ?_
  refine Wp.back (U' := (T1.setTop (mkF m 97 #[.val (.int p0), .val (.int p1), .val (.int p2), .val (.int p3), .val (.int p4), .val (.int 2), .val (.int 0), .val (.ref ta), .val (.ref b1_0), .unset, .unset] [(.int 2), (.ref ta)]))) (fun t k => XS.astore X1.here hx rfl (hb hby at_67) rfl rfl (l' := #[.val (.int p0), .val (.int p1), .val (.int p2), .val (.int p3), .val (.int p4), .val (.int 2), .val (.int 0), .val (.ref ta), .val (.ref b1_0), .unset, .unset]) rfl (XS.iload X1.here hx rfl (hb hby at_69) rfl (XS.ifYes X1.here hx rfl (pc0 := 71) (pc' := 81) rfl (hb hby at_71) rfl ((if0 _ _).trans (teq (by decide)).1) (by decide) (by decide) (XS.aload X1.here hx rfl (hb hby at_81) rfl rfl (XS.iload X1.here hx rfl (hb hby at_83) rfl (XS.ifYes X1.here hx rfl (pc0 := 85) (pc' := 95) rfl (hb hby at_85) rfl ((if0 _ _).trans (teq (by decide)).1) (by decide) (by decide) (XS.iload X1.here hx rfl (hb hby at_95) rfl k))))))) ?_
  obtain ⟨_, _, ⟨T3, L3, k3, n3⟩, -, X3, ⟨Lc3, hQ3, l3, y3, z3⟩, st3⟩ := Jvm.LawKit.callS X1 hx (y := Y27) hown (mvT hZ (ow hw 6 rfl)) (mvT hZ (ow hw 7 rfl)) (mvT hZ (ow hw 3 rfl)) (mvT hZ (ow hw 8 rfl)) (by decide) (backOf (W := 0) (rm_tk2 l Z a0 hw [] ta kt c0 c1 c2 c3 (10 : Int32) cs T1.heap n0 f2_0 f2_3 f2_1 (own_h1 hc0) (own_h1 hc1) hcs) hZ (ow hw 8 rfl) (ow hw 3 rfl) (by decide) (by decide)) (g := (mkF m 97 #[.val (.int p0), .val (.int p1), .val (.int p2), .val (.int p3), .val (.int p4), .val (.int 2), .val (.int 0), .val (.ref ta), .val (.ref b1_0), .unset, .unset] [(.int 2), (.ref ta)])) rfl (by rw [hml]; rfl) (argsL := [(.ref ta), (.int 2)]) (rest := []) (lenOf pd_24 rfl) rfl (Nat.le_of_eq rfl) (hb hby at_97) (fun _ _ => ⟨rfl, rfl, (by decide : 4 + 3 ≤ _), (by decide : 76 + 71 ≤ _)⟩)
  dsimp only [Pt.U, Pt.locs, Pt.cells, Pt.slots] at X3 l3 y3 z3 st3 hQ3
  subst l3 y3 z3
  obtain ⟨b3_0, b3_1, k3_0, rfl, N3q, K3, sf3_0, sf3_1, o3_0, o3_1, o3_2, o3_3⟩ := hQ3
  have ne_ta_b3_0 : ta ≠ b3_0 := Nat.ne_of_lt (Nat.lt_of_lt_of_le f2_3.lt sf3_0)
  have ne_b1_0_b3_0 : b1_0 ≠ b3_0 := Nat.ne_of_lt (Nat.lt_of_lt_of_le o1_0.lt sf3_0)
  have ne_b1_1_b3_0 : b1_1 ≠ b3_0 := Nat.ne_of_lt (Nat.lt_of_lt_of_le o1_3.lt sf3_0)
  have g_b3_0 : n0 ≤ b3_0 := Nat.le_trans f2_0 sf3_0
  have ne_ta_b3_1 : ta ≠ b3_1 := Nat.ne_of_lt (Nat.lt_of_lt_of_le f2_3.lt sf3_1)
  have ne_b1_0_b3_1 : b1_0 ≠ b3_1 := Nat.ne_of_lt (Nat.lt_of_lt_of_le o1_0.lt sf3_1)
  have ne_b1_1_b3_1 : b1_1 ≠ b3_1 := Nat.ne_of_lt (Nat.lt_of_lt_of_le o1_3.lt sf3_1)
  have g_b3_1 : n0 ≤ b3_1 := Nat.le_trans f2_0 sf3_1
  have sf_b3_0 : Safe Z consts_1 vm0 T1.heap b3_0 := Safe.new sf3_0
  have sf_b3_1 : Safe Z consts_1 vm0 T1.heap b3_1 := Safe.new sf3_1
  have f4_0 := Nat.le_trans f2_0 K3.1
  have f4_1 := Sta_keep0 f2_1 K3
  have f4_2 := Sta_keep0 f2_2 K3
  have f4_3 := f2_3.keep K3 nin0
  have f4_4 := CHv.keep K3 sf0 f2_4
  have f4_5 := Nat.le_trans f2_5 K3.1
  have f4_6 := Safe.keep K3 sf0 f2_4 f2_6
  have f4_7 := Safe.keep K3 sf0 f2_4 f2_7
  have f4_8 := o1_0.keep K3
  have f4_9 := o1_1.keep K3 nin0
  have f4_10 := o1_2.keep K3 nin0
  have f4_11 := o1_3.keep K3 nin0
  have f4_12 := Safe.keep K3 sf0 f2_4 sf_b3_0
  have f4_13 := Safe.keep K3 sf0 f2_4 sf_b3_1
  have N3 := Fr.app N1 N3q
  refine Wp.back (U' := (T3.setTop (mkF m 100 #[.val (.int p0), .val (.int p1), .val (.int p2), .val (.int p3), .val (.int p4), .val (.int 2), .val (.int 0), .val (.ref ta), .val (.ref b1_0), .unset, .unset] [(.ref b3_0)]))) st3 ?_
  refine Wp.back (U' := (T3.setTop (mkF m 104 #[.val (.int p0), .val (.int p1), .val (.int p2), .val (.int p3), .val (.int p4), .val (.int 2), .val (.int 0), .val (.ref ta), .val (.ref b1_0), .val (.ref b3_0), .unset] [(.ref b3_0)]))) (fun t k => XS.astore X3.here hx rfl (hb hby at_100) rfl rfl (l' := #[.val (.int p0), .val (.int p1), .val (.int p2), .val (.int p3), .val (.int p4), .val (.int 2), .val (.int 0), .val (.ref ta), .val (.ref b1_0), .val (.ref b3_0), .unset]) rfl (XS.aload X3.here hx rfl (hb hby at_102) rfl rfl k)) ?_
  obtain ⟨a5, T5, h5, k5, b5, kc5, X5, e5, E5, hS5, hk5, hZ, hown, A5, C5, V5, K5, la5, lb5, R5, L5, Sf5, st5⟩ := ldcCH X3 hx hZ hown (ow hw 38 rfl) wS rfl hS0 f4_5 hEL (List.mem_of_getElem? (i := 1) rfl) f4_4 (vs := [(.int 115)]) (z := (1 : Int32)) ⟨by decide, rfl⟩ (by decide) rfl (g := (mkF m 104 #[.val (.int p0), .val (.int p1), .val (.int p2), .val (.int p3), .val (.int p4), .val (.int 2), .val (.int 0), .val (.ref ta), .val (.ref b1_0), .val (.ref b3_0), .unset] [(.ref b3_0)])) rfl (hb hby at_104) (n := 4) (by decide) (by decide) (by decide) (by decide)
  have f6_0 := Nat.le_trans f4_0 E5.1
  have f6_1 := f4_1.ext E5
  have f6_2 := f4_2.ext E5
  have f6_3 := f4_3.ext E5
  have f6_4 := R5.1
  have f6_5 := hk5
  have f6_6 := CHr.safe R5 f4_8.lt f4_6
  have f6_7 := CHr.safe R5 f4_11.lt f4_7
  have f6_8 := f4_8.ext E5
  have f6_9 := f4_9.ext E5
  have f6_10 := f4_10.ext E5
  have f6_11 := f4_11.ext E5
  have f6_12 := CHr.safe R5 o3_0.lt f4_12
  have f6_13 := CHr.safe R5 o3_3.lt f4_13
  have f6_14 := o3_0.ext E5
  have f6_15 := o3_1.ext E5
  have f6_16 := o3_2.ext E5
  have f6_17 := o3_3.ext E5
  have ne_b1_0_a5 : b1_0 ≠ a5 := (Sf5 _ f6_6).1
  have ne_b1_0_b5 : b1_0 ≠ b5 := (Sf5 _ f6_6).2
  have ne_b1_1_a5 : b1_1 ≠ a5 := (Sf5 _ f6_7).1
  have ne_b1_1_b5 : b1_1 ≠ b5 := (Sf5 _ f6_7).2
  have ne_b3_0_a5 : b3_0 ≠ a5 := (Sf5 _ f6_12).1
  have ne_b3_0_b5 : b3_0 ≠ b5 := (Sf5 _ f6_12).2
  have ne_b3_1_a5 : b3_1 ≠ a5 := (Sf5 _ f6_13).1
  have ne_b3_1_b5 : b3_1 ≠ b5 := (Sf5 _ f6_13).2
  refine Wp.back (U' := (T5.setTop (mkF m 106 #[.val (.int p0), .val (.int p1), .val (.int p2), .val (.int p3), .val (.int p4), .val (.int 2), .val (.int 0), .val (.ref ta), .val (.ref b1_0), .val (.ref b3_0), .unset] [(.ref a5), (.ref b3_0)]))) st5 ?_
  obtain ⟨_, _, ⟨T7, L7, k7, n7⟩, -, X7, hS7, gr7, ⟨Lc7, hQ7, l7, y7, z7, R7⟩, st7⟩ := callSS X5 hx (y := Y21) hown (mvT hZ (ow hw 41 rfl)) (mvT hZ (ow hw 42 rfl)) (mvT hZ (ow hw 43 rfl)) (mvT hZ (ow hw 44 rfl)) (by decide) (backOfSH (W := 0) (rm_dgn2 l Z a0 hw [] b3_0 a5 b3_1 cs fm k3_0 (nar .byte ((nar .char c0)).toInt8.toInt32) (nar .byte ((nar .char c1)).toInt8.toInt32) h5 n0 f6_0 f6_14 f6_15 f6_16 f6_17 f6_1 f6_2 isr_fm (own_h2 hc0) (own_h2 hc1) (own_h3 hc1) hcs) hZ (ow hw 44 rfl) (ow hw 43 rfl) (by decide) (by decide) hEL f6_4) (g := (mkF m 106 #[.val (.int p0), .val (.int p1), .val (.int p2), .val (.int p3), .val (.int p4), .val (.int 2), .val (.int 0), .val (.ref ta), .val (.ref b1_0), .val (.ref b3_0), .unset] [(.ref a5), (.ref b3_0)])) rfl (by rw [hml]; rfl) (argsL := [(.ref b3_0), (.ref a5)]) (rest := []) (lenOf pd_25 rfl) rfl (Nat.le_of_eq rfl) (hb hby at_106) (fun _ _ => ⟨rfl, e5, (by decide : 9 + 2 ≤ _), (by decide : 155 + 8 ≤ _)⟩)
  dsimp only [Pt.U, Pt.locs, Pt.cells, Pt.slots] at X7 l7 y7 z7 st7 hQ7 hS7 gr7 R7
  subst l7 y7 z7
  obtain ⟨X7, hS7, hZ, hown⟩ := rebS hS5 (by rw [e5]; exact f6_5) X7 hS7 gr7 hZ hown
  obtain ⟨rfl, N7q, K7⟩ := hQ7
  have f8_0 := Nat.le_trans f6_0 K7.1
  have f8_1 := Sta_keep0 f6_1 K7
  have f8_2 := Sta_keep0 f6_2 K7
  have f8_3 := f6_3.keep K7 nin0
  have f8_4 := R7.1
  have f8_5 := Nat.le_refl T7.heap.size
  have f8_6 := CHr.safe R7 f6_8.lt f6_6
  have f8_7 := CHr.safe R7 f6_11.lt f6_7
  have f8_8 := f6_8.keep K7
  have f8_9 := f6_9.keep K7 nin0
  have f8_10 := f6_10.keep K7 nin0
  have f8_11 := f6_11.keep K7 nin0
  have f8_12 := CHr.safe R7 f6_14.lt f6_12
  have f8_13 := CHr.safe R7 f6_17.lt f6_13
  have f8_14 := f6_14.keep K7
  have f8_15 := f6_15.keep K7 nin0
  have f8_16 := f6_16.keep K7 nin0
  have f8_17 := f6_17.keep K7 nin0
  have f8_18 := A5.keep K7
  have f8_19 := C5.keep K7 nin0
  have f8_20 := V5.keep K7 nin0
  have f8_21 := K5.keep K7 nin0
  have N7 := Fr.app N3 N7q
  refine Wp.back (U' := (T7.setTop (mkF m 109 #[.val (.int p0), .val (.int p1), .val (.int p2), .val (.int p3), .val (.int p4), .val (.int 2), .val (.int 0), .val (.ref ta), .val (.ref b1_0), .val (.ref b3_0), .unset] [(.ref b3_0)]))) (fun t k => st7.trans k) ?_
  refine Wp.back (U' := (T7.setTop (mkF m 115 #[.val (.int p0), .val (.int p1), .val (.int p2), .val (.int p3), .val (.int p4), .val (.int 2), .val (.int 0), .val (.ref ta), .val (.ref b1_0), .val (.ref b3_0), .val (.ref b3_0)] [(.ref b1_0), (.ref b3_0)]))) (fun t k => XS.astore X7.here hx rfl (hb hby at_109) rfl rfl (l' := #[.val (.int p0), .val (.int p1), .val (.int p2), .val (.int p3), .val (.int p4), .val (.int 2), .val (.int 0), .val (.ref ta), .val (.ref b1_0), .val (.ref b3_0), .val (.ref b3_0)]) rfl (XS.aload X7.here hx rfl (hb hby at_111) rfl rfl (XS.aload X7.here hx rfl (hb hby at_113) rfl rfl k))) ?_
  obtain ⟨cq9, kq9, q9a, q9b, q9c⟩ := isOf hZ rfl f8_14
  obtain ⟨_, _, ⟨T9, L9, k9, n9⟩, -, X9, ⟨Lc9, hQ9, l9, y9, z9⟩, st9⟩ := X7.virtualBack hx (y := Y29) (z := Y29) hown (mvT hZ (ow hw 107 rfl)) (mvT hZ (ow hw 108 rfl)) (notFace_of_selects (args := #[]) (mvT hZ (ow hw 110 rfl))) (mvT hZ (ow hw 110 rfl)) (mvT hZ (ow hw 109 rfl)) (by decide) (backOf (W := 0) (rm_eqg l Z a0 hw [] b3_0 b1_0 b3_1 b1_1 k3_0 k1_0 cs (2 : Int32) [(.int (nar .byte ((nar .char c0)).toInt8.toInt32)), (.int (nar .byte ((nar .char c1)).toInt8.toInt32))] T7.heap n0 f8_0 f8_14 f8_15 f8_16 f8_17 f8_8 f8_9 f8_10 f8_11 f8_1 (Ne.symm ne_b1_0_b3_0) own_q2 hcs) hZ (ow hw 111 rfl) (ow hw 11 rfl) (by decide) (by decide)) q9a q9c (g := (mkF m 115 #[.val (.int p0), .val (.int p1), .val (.int p2), .val (.int p3), .val (.int p4), .val (.int 2), .val (.int 0), .val (.ref ta), .val (.ref b1_0), .val (.ref b3_0), .val (.ref b3_0)] [(.ref b1_0), (.ref b3_0)])) rfl (by rw [hml]; rfl) (Steps.refl _) (argsL := [(.ref b1_0)]) (rest := []) (lenOf pd_26 rfl) rfl (Nat.le_of_eq rfl) (hb hby at_115) (fun _ _ => ⟨rfl, rfl, (by decide : 11 + 0 ≤ _), (by decide : 163 + 0 ≤ _)⟩)
  dsimp only [Pt.U, Pt.locs, Pt.cells, Pt.slots] at X9 l9 y9 z9 st9 hQ9
  subst l9 y9 z9
  obtain ⟨rfl, N9q, K9⟩ := hQ9
  have f10_0 := Nat.le_trans f8_0 K9.1
  have f10_1 := Sta_keep0 f8_1 K9
  have f10_2 := Sta_keep0 f8_2 K9
  have f10_3 := f8_3.keep K9 nin0
  have f10_4 := CHv.keep K9 sf0 f8_4
  have f10_5 := Nat.le_trans f8_5 K9.1
  have f10_6 := Safe.keep K9 sf0 f8_4 f8_6
  have f10_7 := Safe.keep K9 sf0 f8_4 f8_7
  have f10_8 := f8_8.keep K9
  have f10_9 := f8_9.keep K9 nin0
  have f10_10 := f8_10.keep K9 nin0
  have f10_11 := f8_11.keep K9 nin0
  have f10_12 := Safe.keep K9 sf0 f8_4 f8_12
  have f10_13 := Safe.keep K9 sf0 f8_4 f8_13
  have f10_14 := f8_14.keep K9
  have f10_15 := f8_15.keep K9 nin0
  have f10_16 := f8_16.keep K9 nin0
  have f10_17 := f8_17.keep K9 nin0
  have f10_18 := f8_18.keep K9
  have f10_19 := f8_19.keep K9 nin0
  have f10_20 := f8_20.keep K9 nin0
  have f10_21 := f8_21.keep K9 nin0
  have N9 := Fr.app N7 N9q
  refine Wp.back (U' := (T9.setTop (mkF m 118 #[.val (.int p0), .val (.int p1), .val (.int p2), .val (.int p3), .val (.int p4), .val (.int 2), .val (.int 0), .val (.ref ta), .val (.ref b1_0), .val (.ref b3_0), .val (.ref b3_0)] [(.int 1)]))) (fun t k => st9.trans k) ?_
  obtain ⟨fs, hr, hrun, hended, hend⟩ := X9.leaveW hS7 f10_5 (v := (some (.int 1))) (fun h => by rw [hret] at h; cases h)
  refine Wp.done (retN X9 hx (t := .boolean) hret (by simp) (hb hby at_118) hr) hrun hended ⟨_, _, rfl, ?_, hend.1, hend.2.1, hend.2.2.1, hend.2.2.2.mono (by decide) (by decide)⟩
  show QL n0 _ T9.heap _
  exact ⟨rfl, N9⟩
set_option maxRecDepth 65536 in
set_option maxHeartbeats 40000000 in
theorem own_t3_0 {p : Program} {l : Launch} {e : Env} {s : State} {m : MethodId} {args : Array Value} {below : List Frame} {meth : Method} {c : Code} {T0 : State} {locs : List Loc} {Z : State} {a0 : Array Value} {hA : Heap} {n0 : Nat} {vm0 : Vm} {kk : Nat} (p0 p1 p2 p3 p4 : Int32) (ta : Addr) (kt : ClassId) (c0 c1 c2 c3 cs : Int32) (fm : Value)
    (hx : p.tables.exec = Jvm.exec) (hw : ∀ d ∈ tables_1, d.before a0 Z = true) (hby : c.code = code) (hml : c.maxLocals = 11) (hret : meth.sig.returnType = ret) (hlk : meth.locks = false) (hZ : Z.Warmed39 (s.setVm vm0).vm) (hown : (s.setVm vm0).vm.findClass "com/example/surebit/surebit/input/HexNumberDigitsPinLaw" = some m.cls) (X0 : Stand p l e room_1 (s.setVm vm0) m args below meth c T0 locs 1 5) (e0 : T0.heap = hA) (N0 : Fr n0 locs) (Z0 : n0 ≤ hA.size) (hS0 : s.Since vm0 kk) (hk0 : kk ≤ hA.size) (PC : Sta Z hA "java/lang/String" "COMPACT_STRINGS" "Z" (.int cs)) (PF : Sta Z hA "jdk/internal/util/Preconditions" "SIOOBE_FORMATTER" "Ljava/util/function/BiFunction;" fm) (TA : Arv Z hA ta kt .char (5 : Int32) [(.int c0), (.int c1), (.int c2), (.int c3), (.int 10)] (.int 0)) (hCH : CHv Z consts_1 vm0 hA) (gta : n0 ≤ ta) (hcs : ¬ cs = (0 : Int32)) (isr_fm : fm.isRef = true) (hc0 : own_H c0) (hc1 : own_H c1) (hc2 : own_H c2) (hc3 : own_H c3) :
    Wp p e below (fun o s₂ => ∃ v L, o = .returned v ∧ QL n0 v s₂.heap L ∧ ReturnedEndW s o s₂ L 32 2240) (T0.setTop (mkF m 60 #[.val (.int p0), .val (.int p1), .val (.int p2), .val (.int p3), .val (.int p4), .val (.int 3), .val (.int 0), .val (.ref ta), .unset, .unset, .unset] [])) := by
  have hEL : EW Z a0 consts_1 := own_EW hw
  have wS := own_wS hw
  refine Wp.back (U' := (T0.setTop (mkF m 64 #[.val (.int p0), .val (.int p1), .val (.int p2), .val (.int p3), .val (.int p4), .val (.int 3), .val (.int 0), .val (.ref ta), .unset, .unset, .unset] [(.int 3), (.ref ta)]))) (fun t k => XS.aload X0.here hx rfl (hb hby at_60) rfl rfl (XS.iload X0.here hx rfl (hb hby at_62) rfl k)) ?_
  obtain ⟨_, _, ⟨T1, L1, k1, n1⟩, -, X1, ⟨Lc1, hQ1, l1, y1, z1⟩, st1⟩ := Jvm.LawKit.callS X0 hx (y := Y27) hown (mvT hZ (ow hw 6 rfl)) (mvT hZ (ow hw 7 rfl)) (mvT hZ (ow hw 3 rfl)) (mvT hZ (ow hw 8 rfl)) (by decide) (backOf (W := 0) (rm_tk3 l Z a0 hw [] ta kt c0 c1 c2 c3 (10 : Int32) cs hA n0 Z0 TA PC (own_h1 hc0) (own_h1 hc1) (own_h1 hc2) hcs) hZ (ow hw 8 rfl) (ow hw 3 rfl) (by decide) (by decide)) (g := (mkF m 64 #[.val (.int p0), .val (.int p1), .val (.int p2), .val (.int p3), .val (.int p4), .val (.int 3), .val (.int 0), .val (.ref ta), .unset, .unset, .unset] [(.int 3), (.ref ta)])) rfl (by rw [hml]; rfl) (argsL := [(.ref ta), (.int 3)]) (rest := []) (lenOf pd_24 rfl) rfl (Nat.le_of_eq rfl) (hb hby at_64) (fun _ _ => ⟨rfl, e0, (by decide : 1 + 3 ≤ _), (by decide : 5 + 72 ≤ _)⟩)
  dsimp only [Pt.U, Pt.locs, Pt.cells, Pt.slots] at X1 l1 y1 z1 st1 hQ1
  subst l1 y1 z1
  obtain ⟨b1_0, b1_1, k1_0, rfl, N1q, K1, sf1_0, sf1_1, o1_0, o1_1, o1_2, o1_3⟩ := hQ1
  have ne_ta_b1_0 : ta ≠ b1_0 := Nat.ne_of_lt (Nat.lt_of_lt_of_le TA.lt sf1_0)
  have g_b1_0 : n0 ≤ b1_0 := Nat.le_trans Z0 sf1_0
  have ne_ta_b1_1 : ta ≠ b1_1 := Nat.ne_of_lt (Nat.lt_of_lt_of_le TA.lt sf1_1)
  have g_b1_1 : n0 ≤ b1_1 := Nat.le_trans Z0 sf1_1
  have sf_b1_0 : Safe Z consts_1 vm0 hA b1_0 := Safe.new sf1_0
  have sf_b1_1 : Safe Z consts_1 vm0 hA b1_1 := Safe.new sf1_1
  have f2_0 := Nat.le_trans Z0 K1.1
  have f2_1 := Sta_keep0 PC K1
  have f2_2 := Sta_keep0 PF K1
  have f2_3 := TA.keep K1 nin0
  have f2_4 := CHv.keep K1 sf0 hCH
  have f2_5 := Nat.le_trans hk0 K1.1
  have f2_6 := Safe.keep K1 sf0 hCH sf_b1_0
  have f2_7 := Safe.keep K1 sf0 hCH sf_b1_1
  have N1 := Fr.app N0 N1q
  refine Wp.back (U' := (T1.setTop (mkF m 67 #[.val (.int p0), .val (.int p1), .val (.int p2), .val (.int p3), .val (.int p4), .val (.int 3), .val (.int 0), .val (.ref ta), .unset, .unset, .unset] [(.ref b1_0)]))) st1 ?_
  refine Wp.back (U' := (T1.setTop (mkF m 97 #[.val (.int p0), .val (.int p1), .val (.int p2), .val (.int p3), .val (.int p4), .val (.int 3), .val (.int 0), .val (.ref ta), .val (.ref b1_0), .unset, .unset] [(.int 3), (.ref ta)]))) (fun t k => XS.astore X1.here hx rfl (hb hby at_67) rfl rfl (l' := #[.val (.int p0), .val (.int p1), .val (.int p2), .val (.int p3), .val (.int p4), .val (.int 3), .val (.int 0), .val (.ref ta), .val (.ref b1_0), .unset, .unset]) rfl (XS.iload X1.here hx rfl (hb hby at_69) rfl (XS.ifYes X1.here hx rfl (pc0 := 71) (pc' := 81) rfl (hb hby at_71) rfl ((if0 _ _).trans (teq (by decide)).1) (by decide) (by decide) (XS.aload X1.here hx rfl (hb hby at_81) rfl rfl (XS.iload X1.here hx rfl (hb hby at_83) rfl (XS.ifYes X1.here hx rfl (pc0 := 85) (pc' := 95) rfl (hb hby at_85) rfl ((if0 _ _).trans (teq (by decide)).1) (by decide) (by decide) (XS.iload X1.here hx rfl (hb hby at_95) rfl k))))))) ?_
  obtain ⟨_, _, ⟨T3, L3, k3, n3⟩, -, X3, ⟨Lc3, hQ3, l3, y3, z3⟩, st3⟩ := Jvm.LawKit.callS X1 hx (y := Y27) hown (mvT hZ (ow hw 6 rfl)) (mvT hZ (ow hw 7 rfl)) (mvT hZ (ow hw 3 rfl)) (mvT hZ (ow hw 8 rfl)) (by decide) (backOf (W := 0) (rm_tk3 l Z a0 hw [] ta kt c0 c1 c2 c3 (10 : Int32) cs T1.heap n0 f2_0 f2_3 f2_1 (own_h1 hc0) (own_h1 hc1) (own_h1 hc2) hcs) hZ (ow hw 8 rfl) (ow hw 3 rfl) (by decide) (by decide)) (g := (mkF m 97 #[.val (.int p0), .val (.int p1), .val (.int p2), .val (.int p3), .val (.int p4), .val (.int 3), .val (.int 0), .val (.ref ta), .val (.ref b1_0), .unset, .unset] [(.int 3), (.ref ta)])) rfl (by rw [hml]; rfl) (argsL := [(.ref ta), (.int 3)]) (rest := []) (lenOf pd_24 rfl) rfl (Nat.le_of_eq rfl) (hb hby at_97) (fun _ _ => ⟨rfl, rfl, (by decide : 4 + 3 ≤ _), (by decide : 77 + 72 ≤ _)⟩)
  dsimp only [Pt.U, Pt.locs, Pt.cells, Pt.slots] at X3 l3 y3 z3 st3 hQ3
  subst l3 y3 z3
  obtain ⟨b3_0, b3_1, k3_0, rfl, N3q, K3, sf3_0, sf3_1, o3_0, o3_1, o3_2, o3_3⟩ := hQ3
  have ne_ta_b3_0 : ta ≠ b3_0 := Nat.ne_of_lt (Nat.lt_of_lt_of_le f2_3.lt sf3_0)
  have ne_b1_0_b3_0 : b1_0 ≠ b3_0 := Nat.ne_of_lt (Nat.lt_of_lt_of_le o1_0.lt sf3_0)
  have ne_b1_1_b3_0 : b1_1 ≠ b3_0 := Nat.ne_of_lt (Nat.lt_of_lt_of_le o1_3.lt sf3_0)
  have g_b3_0 : n0 ≤ b3_0 := Nat.le_trans f2_0 sf3_0
  have ne_ta_b3_1 : ta ≠ b3_1 := Nat.ne_of_lt (Nat.lt_of_lt_of_le f2_3.lt sf3_1)
  have ne_b1_0_b3_1 : b1_0 ≠ b3_1 := Nat.ne_of_lt (Nat.lt_of_lt_of_le o1_0.lt sf3_1)
  have ne_b1_1_b3_1 : b1_1 ≠ b3_1 := Nat.ne_of_lt (Nat.lt_of_lt_of_le o1_3.lt sf3_1)
  have g_b3_1 : n0 ≤ b3_1 := Nat.le_trans f2_0 sf3_1
  have sf_b3_0 : Safe Z consts_1 vm0 T1.heap b3_0 := Safe.new sf3_0
  have sf_b3_1 : Safe Z consts_1 vm0 T1.heap b3_1 := Safe.new sf3_1
  have f4_0 := Nat.le_trans f2_0 K3.1
  have f4_1 := Sta_keep0 f2_1 K3
  have f4_2 := Sta_keep0 f2_2 K3
  have f4_3 := f2_3.keep K3 nin0
  have f4_4 := CHv.keep K3 sf0 f2_4
  have f4_5 := Nat.le_trans f2_5 K3.1
  have f4_6 := Safe.keep K3 sf0 f2_4 f2_6
  have f4_7 := Safe.keep K3 sf0 f2_4 f2_7
  have f4_8 := o1_0.keep K3
  have f4_9 := o1_1.keep K3 nin0
  have f4_10 := o1_2.keep K3 nin0
  have f4_11 := o1_3.keep K3 nin0
  have f4_12 := Safe.keep K3 sf0 f2_4 sf_b3_0
  have f4_13 := Safe.keep K3 sf0 f2_4 sf_b3_1
  have N3 := Fr.app N1 N3q
  refine Wp.back (U' := (T3.setTop (mkF m 100 #[.val (.int p0), .val (.int p1), .val (.int p2), .val (.int p3), .val (.int p4), .val (.int 3), .val (.int 0), .val (.ref ta), .val (.ref b1_0), .unset, .unset] [(.ref b3_0)]))) st3 ?_
  refine Wp.back (U' := (T3.setTop (mkF m 104 #[.val (.int p0), .val (.int p1), .val (.int p2), .val (.int p3), .val (.int p4), .val (.int 3), .val (.int 0), .val (.ref ta), .val (.ref b1_0), .val (.ref b3_0), .unset] [(.ref b3_0)]))) (fun t k => XS.astore X3.here hx rfl (hb hby at_100) rfl rfl (l' := #[.val (.int p0), .val (.int p1), .val (.int p2), .val (.int p3), .val (.int p4), .val (.int 3), .val (.int 0), .val (.ref ta), .val (.ref b1_0), .val (.ref b3_0), .unset]) rfl (XS.aload X3.here hx rfl (hb hby at_102) rfl rfl k)) ?_
  obtain ⟨a5, T5, h5, k5, b5, kc5, X5, e5, E5, hS5, hk5, hZ, hown, A5, C5, V5, K5, la5, lb5, R5, L5, Sf5, st5⟩ := ldcCH X3 hx hZ hown (ow hw 38 rfl) wS rfl hS0 f4_5 hEL (List.mem_of_getElem? (i := 1) rfl) f4_4 (vs := [(.int 115)]) (z := (1 : Int32)) ⟨by decide, rfl⟩ (by decide) rfl (g := (mkF m 104 #[.val (.int p0), .val (.int p1), .val (.int p2), .val (.int p3), .val (.int p4), .val (.int 3), .val (.int 0), .val (.ref ta), .val (.ref b1_0), .val (.ref b3_0), .unset] [(.ref b3_0)])) rfl (hb hby at_104) (n := 4) (by decide) (by decide) (by decide) (by decide)
  have f6_0 := Nat.le_trans f4_0 E5.1
  have f6_1 := f4_1.ext E5
  have f6_2 := f4_2.ext E5
  have f6_3 := f4_3.ext E5
  have f6_4 := R5.1
  have f6_5 := hk5
  have f6_6 := CHr.safe R5 f4_8.lt f4_6
  have f6_7 := CHr.safe R5 f4_11.lt f4_7
  have f6_8 := f4_8.ext E5
  have f6_9 := f4_9.ext E5
  have f6_10 := f4_10.ext E5
  have f6_11 := f4_11.ext E5
  have f6_12 := CHr.safe R5 o3_0.lt f4_12
  have f6_13 := CHr.safe R5 o3_3.lt f4_13
  have f6_14 := o3_0.ext E5
  have f6_15 := o3_1.ext E5
  have f6_16 := o3_2.ext E5
  have f6_17 := o3_3.ext E5
  have ne_b1_0_a5 : b1_0 ≠ a5 := (Sf5 _ f6_6).1
  have ne_b1_0_b5 : b1_0 ≠ b5 := (Sf5 _ f6_6).2
  have ne_b1_1_a5 : b1_1 ≠ a5 := (Sf5 _ f6_7).1
  have ne_b1_1_b5 : b1_1 ≠ b5 := (Sf5 _ f6_7).2
  have ne_b3_0_a5 : b3_0 ≠ a5 := (Sf5 _ f6_12).1
  have ne_b3_0_b5 : b3_0 ≠ b5 := (Sf5 _ f6_12).2
  have ne_b3_1_a5 : b3_1 ≠ a5 := (Sf5 _ f6_13).1
  have ne_b3_1_b5 : b3_1 ≠ b5 := (Sf5 _ f6_13).2
  refine Wp.back (U' := (T5.setTop (mkF m 106 #[.val (.int p0), .val (.int p1), .val (.int p2), .val (.int p3), .val (.int p4), .val (.int 3), .val (.int 0), .val (.ref ta), .val (.ref b1_0), .val (.ref b3_0), .unset] [(.ref a5), (.ref b3_0)]))) st5 ?_
  obtain ⟨_, _, ⟨T7, L7, k7, n7⟩, -, X7, hS7, gr7, ⟨Lc7, hQ7, l7, y7, z7, R7⟩, st7⟩ := callSS X5 hx (y := Y21) hown (mvT hZ (ow hw 41 rfl)) (mvT hZ (ow hw 42 rfl)) (mvT hZ (ow hw 43 rfl)) (mvT hZ (ow hw 44 rfl)) (by decide) (backOfSH (W := 0) (rm_dgn3 l Z a0 hw [] b3_0 a5 b3_1 cs fm k3_0 (nar .byte ((nar .char c0)).toInt8.toInt32) (nar .byte ((nar .char c1)).toInt8.toInt32) (nar .byte ((nar .char c2)).toInt8.toInt32) h5 n0 f6_0 f6_14 f6_15 f6_16 f6_17 f6_1 f6_2 isr_fm (own_h2 hc0) (own_h2 hc1) (own_h2 hc2) (own_h3 hc2) hcs) hZ (ow hw 44 rfl) (ow hw 43 rfl) (by decide) (by decide) hEL f6_4) (g := (mkF m 106 #[.val (.int p0), .val (.int p1), .val (.int p2), .val (.int p3), .val (.int p4), .val (.int 3), .val (.int 0), .val (.ref ta), .val (.ref b1_0), .val (.ref b3_0), .unset] [(.ref a5), (.ref b3_0)])) rfl (by rw [hml]; rfl) (argsL := [(.ref b3_0), (.ref a5)]) (rest := []) (lenOf pd_25 rfl) rfl (Nat.le_of_eq rfl) (hb hby at_106) (fun _ _ => ⟨rfl, e5, (by decide : 9 + 2 ≤ _), (by decide : 157 + 8 ≤ _)⟩)
  dsimp only [Pt.U, Pt.locs, Pt.cells, Pt.slots] at X7 l7 y7 z7 st7 hQ7 hS7 gr7 R7
  subst l7 y7 z7
  obtain ⟨X7, hS7, hZ, hown⟩ := rebS hS5 (by rw [e5]; exact f6_5) X7 hS7 gr7 hZ hown
  obtain ⟨rfl, N7q, K7⟩ := hQ7
  have f8_0 := Nat.le_trans f6_0 K7.1
  have f8_1 := Sta_keep0 f6_1 K7
  have f8_2 := Sta_keep0 f6_2 K7
  have f8_3 := f6_3.keep K7 nin0
  have f8_4 := R7.1
  have f8_5 := Nat.le_refl T7.heap.size
  have f8_6 := CHr.safe R7 f6_8.lt f6_6
  have f8_7 := CHr.safe R7 f6_11.lt f6_7
  have f8_8 := f6_8.keep K7
  have f8_9 := f6_9.keep K7 nin0
  have f8_10 := f6_10.keep K7 nin0
  have f8_11 := f6_11.keep K7 nin0
  have f8_12 := CHr.safe R7 f6_14.lt f6_12
  have f8_13 := CHr.safe R7 f6_17.lt f6_13
  have f8_14 := f6_14.keep K7
  have f8_15 := f6_15.keep K7 nin0
  have f8_16 := f6_16.keep K7 nin0
  have f8_17 := f6_17.keep K7 nin0
  have f8_18 := A5.keep K7
  have f8_19 := C5.keep K7 nin0
  have f8_20 := V5.keep K7 nin0
  have f8_21 := K5.keep K7 nin0
  have N7 := Fr.app N3 N7q
  refine Wp.back (U' := (T7.setTop (mkF m 109 #[.val (.int p0), .val (.int p1), .val (.int p2), .val (.int p3), .val (.int p4), .val (.int 3), .val (.int 0), .val (.ref ta), .val (.ref b1_0), .val (.ref b3_0), .unset] [(.ref b3_0)]))) (fun t k => st7.trans k) ?_
  refine Wp.back (U' := (T7.setTop (mkF m 115 #[.val (.int p0), .val (.int p1), .val (.int p2), .val (.int p3), .val (.int p4), .val (.int 3), .val (.int 0), .val (.ref ta), .val (.ref b1_0), .val (.ref b3_0), .val (.ref b3_0)] [(.ref b1_0), (.ref b3_0)]))) (fun t k => XS.astore X7.here hx rfl (hb hby at_109) rfl rfl (l' := #[.val (.int p0), .val (.int p1), .val (.int p2), .val (.int p3), .val (.int p4), .val (.int 3), .val (.int 0), .val (.ref ta), .val (.ref b1_0), .val (.ref b3_0), .val (.ref b3_0)]) rfl (XS.aload X7.here hx rfl (hb hby at_111) rfl rfl (XS.aload X7.here hx rfl (hb hby at_113) rfl rfl k))) ?_
  obtain ⟨cq9, kq9, q9a, q9b, q9c⟩ := isOf hZ rfl f8_14
  obtain ⟨_, _, ⟨T9, L9, k9, n9⟩, -, X9, ⟨Lc9, hQ9, l9, y9, z9⟩, st9⟩ := X7.virtualBack hx (y := Y29) (z := Y29) hown (mvT hZ (ow hw 107 rfl)) (mvT hZ (ow hw 108 rfl)) (notFace_of_selects (args := #[]) (mvT hZ (ow hw 110 rfl))) (mvT hZ (ow hw 110 rfl)) (mvT hZ (ow hw 109 rfl)) (by decide) (backOf (W := 0) (rm_eqg l Z a0 hw [] b3_0 b1_0 b3_1 b1_1 k3_0 k1_0 cs (3 : Int32) [(.int (nar .byte ((nar .char c0)).toInt8.toInt32)), (.int (nar .byte ((nar .char c1)).toInt8.toInt32)), (.int (nar .byte ((nar .char c2)).toInt8.toInt32))] T7.heap n0 f8_0 f8_14 f8_15 f8_16 f8_17 f8_8 f8_9 f8_10 f8_11 f8_1 (Ne.symm ne_b1_0_b3_0) own_q3 hcs) hZ (ow hw 111 rfl) (ow hw 11 rfl) (by decide) (by decide)) q9a q9c (g := (mkF m 115 #[.val (.int p0), .val (.int p1), .val (.int p2), .val (.int p3), .val (.int p4), .val (.int 3), .val (.int 0), .val (.ref ta), .val (.ref b1_0), .val (.ref b3_0), .val (.ref b3_0)] [(.ref b1_0), (.ref b3_0)])) rfl (by rw [hml]; rfl) (Steps.refl _) (argsL := [(.ref b1_0)]) (rest := []) (lenOf pd_26 rfl) rfl (Nat.le_of_eq rfl) (hb hby at_115) (fun _ _ => ⟨rfl, rfl, (by decide : 11 + 0 ≤ _), (by decide : 165 + 0 ≤ _)⟩)
  dsimp only [Pt.U, Pt.locs, Pt.cells, Pt.slots] at X9 l9 y9 z9 st9 hQ9
  subst l9 y9 z9
  obtain ⟨rfl, N9q, K9⟩ := hQ9
  have f10_0 := Nat.le_trans f8_0 K9.1
  have f10_1 := Sta_keep0 f8_1 K9
  have f10_2 := Sta_keep0 f8_2 K9
  have f10_3 := f8_3.keep K9 nin0
  have f10_4 := CHv.keep K9 sf0 f8_4
  have f10_5 := Nat.le_trans f8_5 K9.1
  have f10_6 := Safe.keep K9 sf0 f8_4 f8_6
  have f10_7 := Safe.keep K9 sf0 f8_4 f8_7
  have f10_8 := f8_8.keep K9
  have f10_9 := f8_9.keep K9 nin0
  have f10_10 := f8_10.keep K9 nin0
  have f10_11 := f8_11.keep K9 nin0
  have f10_12 := Safe.keep K9 sf0 f8_4 f8_12
  have f10_13 := Safe.keep K9 sf0 f8_4 f8_13
  have f10_14 := f8_14.keep K9
  have f10_15 := f8_15.keep K9 nin0
  have f10_16 := f8_16.keep K9 nin0
  have f10_17 := f8_17.keep K9 nin0
  have f10_18 := f8_18.keep K9
  have f10_19 := f8_19.keep K9 nin0
  have f10_20 := f8_20.keep K9 nin0
  have f10_21 := f8_21.keep K9 nin0
  have N9 := Fr.app N7 N9q
  refine Wp.back (U' := (T9.setTop (mkF m 118 #[.val (.int p0), .val (.int p1), .val (.int p2), .val (.int p3), .val (.int p4), .val (.int 3), .val (.int 0), .val (.ref ta), .val (.ref b1_0), .val (.ref b3_0), .val (.ref b3_0)] [(.int 1)]))) (fun t k => st9.trans k) ?_
  obtain ⟨fs, hr, hrun, hended, hend⟩ := X9.leaveW hS7 f10_5 (v := (some (.int 1))) (fun h => by rw [hret] at h; cases h)
  refine Wp.done (retN X9 hx (t := .boolean) hret (by simp) (hb hby at_118) hr) hrun hended ⟨_, _, rfl, ?_, hend.1, hend.2.1, hend.2.2.1, hend.2.2.2.mono (by decide) (by decide)⟩
  show QL n0 _ T9.heap _
  exact ⟨rfl, N9⟩
set_option maxRecDepth 65536 in
set_option maxHeartbeats 40000000 in
theorem own_t4_0 {p : Program} {l : Launch} {e : Env} {s : State} {m : MethodId} {args : Array Value} {below : List Frame} {meth : Method} {c : Code} {T0 : State} {locs : List Loc} {Z : State} {a0 : Array Value} {hA : Heap} {n0 : Nat} {vm0 : Vm} {kk : Nat} (p0 p1 p2 p3 p4 : Int32) (ta : Addr) (kt : ClassId) (c0 c1 c2 c3 cs : Int32) (fm : Value)
    (hx : p.tables.exec = Jvm.exec) (hw : ∀ d ∈ tables_1, d.before a0 Z = true) (hby : c.code = code) (hml : c.maxLocals = 11) (hret : meth.sig.returnType = ret) (hlk : meth.locks = false) (hZ : Z.Warmed39 (s.setVm vm0).vm) (hown : (s.setVm vm0).vm.findClass "com/example/surebit/surebit/input/HexNumberDigitsPinLaw" = some m.cls) (X0 : Stand p l e room_1 (s.setVm vm0) m args below meth c T0 locs 1 5) (e0 : T0.heap = hA) (N0 : Fr n0 locs) (Z0 : n0 ≤ hA.size) (hS0 : s.Since vm0 kk) (hk0 : kk ≤ hA.size) (PC : Sta Z hA "java/lang/String" "COMPACT_STRINGS" "Z" (.int cs)) (PF : Sta Z hA "jdk/internal/util/Preconditions" "SIOOBE_FORMATTER" "Ljava/util/function/BiFunction;" fm) (TA : Arv Z hA ta kt .char (5 : Int32) [(.int c0), (.int c1), (.int c2), (.int c3), (.int 10)] (.int 0)) (hCH : CHv Z consts_1 vm0 hA) (gta : n0 ≤ ta) (hcs : ¬ cs = (0 : Int32)) (isr_fm : fm.isRef = true) (hc0 : own_H c0) (hc1 : own_H c1) (hc2 : own_H c2) (hc3 : own_H c3) :
    Wp p e below (fun o s₂ => ∃ v L, o = .returned v ∧ QL n0 v s₂.heap L ∧ ReturnedEndW s o s₂ L 32 2240) (T0.setTop (mkF m 60 #[.val (.int p0), .val (.int p1), .val (.int p2), .val (.int p3), .val (.int p4), .val (.int 4), .val (.int 0), .val (.ref ta), .unset, .unset, .unset] [])) := by
  have hEL : EW Z a0 consts_1 := own_EW hw
  have wS := own_wS hw
  refine Wp.back (U' := (T0.setTop (mkF m 64 #[.val (.int p0), .val (.int p1), .val (.int p2), .val (.int p3), .val (.int p4), .val (.int 4), .val (.int 0), .val (.ref ta), .unset, .unset, .unset] [(.int 4), (.ref ta)]))) (fun t k => XS.aload X0.here hx rfl (hb hby at_60) rfl rfl (XS.iload X0.here hx rfl (hb hby at_62) rfl k)) ?_
  obtain ⟨_, _, ⟨T1, L1, k1, n1⟩, -, X1, ⟨Lc1, hQ1, l1, y1, z1⟩, st1⟩ := Jvm.LawKit.callS X0 hx (y := Y27) hown (mvT hZ (ow hw 6 rfl)) (mvT hZ (ow hw 7 rfl)) (mvT hZ (ow hw 3 rfl)) (mvT hZ (ow hw 8 rfl)) (by decide) (backOf (W := 0) (rm_tk4 l Z a0 hw [] ta kt c0 c1 c2 c3 (10 : Int32) cs hA n0 Z0 TA PC (own_h1 hc0) (own_h1 hc1) (own_h1 hc2) (own_h1 hc3) hcs) hZ (ow hw 8 rfl) (ow hw 3 rfl) (by decide) (by decide)) (g := (mkF m 64 #[.val (.int p0), .val (.int p1), .val (.int p2), .val (.int p3), .val (.int p4), .val (.int 4), .val (.int 0), .val (.ref ta), .unset, .unset, .unset] [(.int 4), (.ref ta)])) rfl (by rw [hml]; rfl) (argsL := [(.ref ta), (.int 4)]) (rest := []) (lenOf pd_24 rfl) rfl (Nat.le_of_eq rfl) (hb hby at_64) (fun _ _ => ⟨rfl, e0, (by decide : 1 + 3 ≤ _), (by decide : 5 + 73 ≤ _)⟩)
  dsimp only [Pt.U, Pt.locs, Pt.cells, Pt.slots] at X1 l1 y1 z1 st1 hQ1
  subst l1 y1 z1
  obtain ⟨b1_0, b1_1, k1_0, rfl, N1q, K1, sf1_0, sf1_1, o1_0, o1_1, o1_2, o1_3⟩ := hQ1
  have ne_ta_b1_0 : ta ≠ b1_0 := Nat.ne_of_lt (Nat.lt_of_lt_of_le TA.lt sf1_0)
  have g_b1_0 : n0 ≤ b1_0 := Nat.le_trans Z0 sf1_0
  have ne_ta_b1_1 : ta ≠ b1_1 := Nat.ne_of_lt (Nat.lt_of_lt_of_le TA.lt sf1_1)
  have g_b1_1 : n0 ≤ b1_1 := Nat.le_trans Z0 sf1_1
  have sf_b1_0 : Safe Z consts_1 vm0 hA b1_0 := Safe.new sf1_0
  have sf_b1_1 : Safe Z consts_1 vm0 hA b1_1 := Safe.new sf1_1
  have f2_0 := Nat.le_trans Z0 K1.1
  have f2_1 := Sta_keep0 PC K1
  have f2_2 := Sta_keep0 PF K1
  have f2_3 := TA.keep K1 nin0
  have f2_4 := CHv.keep K1 sf0 hCH
  have f2_5 := Nat.le_trans hk0 K1.1
  have f2_6 := Safe.keep K1 sf0 hCH sf_b1_0
  have f2_7 := Safe.keep K1 sf0 hCH sf_b1_1
  have N1 := Fr.app N0 N1q
  refine Wp.back (U' := (T1.setTop (mkF m 67 #[.val (.int p0), .val (.int p1), .val (.int p2), .val (.int p3), .val (.int p4), .val (.int 4), .val (.int 0), .val (.ref ta), .unset, .unset, .unset] [(.ref b1_0)]))) st1 ?_
  refine Wp.back (U' := (T1.setTop (mkF m 97 #[.val (.int p0), .val (.int p1), .val (.int p2), .val (.int p3), .val (.int p4), .val (.int 4), .val (.int 0), .val (.ref ta), .val (.ref b1_0), .unset, .unset] [(.int 4), (.ref ta)]))) (fun t k => XS.astore X1.here hx rfl (hb hby at_67) rfl rfl (l' := #[.val (.int p0), .val (.int p1), .val (.int p2), .val (.int p3), .val (.int p4), .val (.int 4), .val (.int 0), .val (.ref ta), .val (.ref b1_0), .unset, .unset]) rfl (XS.iload X1.here hx rfl (hb hby at_69) rfl (XS.ifYes X1.here hx rfl (pc0 := 71) (pc' := 81) rfl (hb hby at_71) rfl ((if0 _ _).trans (teq (by decide)).1) (by decide) (by decide) (XS.aload X1.here hx rfl (hb hby at_81) rfl rfl (XS.iload X1.here hx rfl (hb hby at_83) rfl (XS.ifYes X1.here hx rfl (pc0 := 85) (pc' := 95) rfl (hb hby at_85) rfl ((if0 _ _).trans (teq (by decide)).1) (by decide) (by decide) (XS.iload X1.here hx rfl (hb hby at_95) rfl k))))))) ?_
  obtain ⟨_, _, ⟨T3, L3, k3, n3⟩, -, X3, ⟨Lc3, hQ3, l3, y3, z3⟩, st3⟩ := Jvm.LawKit.callS X1 hx (y := Y27) hown (mvT hZ (ow hw 6 rfl)) (mvT hZ (ow hw 7 rfl)) (mvT hZ (ow hw 3 rfl)) (mvT hZ (ow hw 8 rfl)) (by decide) (backOf (W := 0) (rm_tk4 l Z a0 hw [] ta kt c0 c1 c2 c3 (10 : Int32) cs T1.heap n0 f2_0 f2_3 f2_1 (own_h1 hc0) (own_h1 hc1) (own_h1 hc2) (own_h1 hc3) hcs) hZ (ow hw 8 rfl) (ow hw 3 rfl) (by decide) (by decide)) (g := (mkF m 97 #[.val (.int p0), .val (.int p1), .val (.int p2), .val (.int p3), .val (.int p4), .val (.int 4), .val (.int 0), .val (.ref ta), .val (.ref b1_0), .unset, .unset] [(.int 4), (.ref ta)])) rfl (by rw [hml]; rfl) (argsL := [(.ref ta), (.int 4)]) (rest := []) (lenOf pd_24 rfl) rfl (Nat.le_of_eq rfl) (hb hby at_97) (fun _ _ => ⟨rfl, rfl, (by decide : 4 + 3 ≤ _), (by decide : 78 + 73 ≤ _)⟩)
  dsimp only [Pt.U, Pt.locs, Pt.cells, Pt.slots] at X3 l3 y3 z3 st3 hQ3
  subst l3 y3 z3
  obtain ⟨b3_0, b3_1, k3_0, rfl, N3q, K3, sf3_0, sf3_1, o3_0, o3_1, o3_2, o3_3⟩ := hQ3
  have ne_ta_b3_0 : ta ≠ b3_0 := Nat.ne_of_lt (Nat.lt_of_lt_of_le f2_3.lt sf3_0)
  have ne_b1_0_b3_0 : b1_0 ≠ b3_0 := Nat.ne_of_lt (Nat.lt_of_lt_of_le o1_0.lt sf3_0)
  have ne_b1_1_b3_0 : b1_1 ≠ b3_0 := Nat.ne_of_lt (Nat.lt_of_lt_of_le o1_3.lt sf3_0)
  have g_b3_0 : n0 ≤ b3_0 := Nat.le_trans f2_0 sf3_0
  have ne_ta_b3_1 : ta ≠ b3_1 := Nat.ne_of_lt (Nat.lt_of_lt_of_le f2_3.lt sf3_1)
  have ne_b1_0_b3_1 : b1_0 ≠ b3_1 := Nat.ne_of_lt (Nat.lt_of_lt_of_le o1_0.lt sf3_1)
  have ne_b1_1_b3_1 : b1_1 ≠ b3_1 := Nat.ne_of_lt (Nat.lt_of_lt_of_le o1_3.lt sf3_1)
  have g_b3_1 : n0 ≤ b3_1 := Nat.le_trans f2_0 sf3_1
  have sf_b3_0 : Safe Z consts_1 vm0 T1.heap b3_0 := Safe.new sf3_0
  have sf_b3_1 : Safe Z consts_1 vm0 T1.heap b3_1 := Safe.new sf3_1
  have f4_0 := Nat.le_trans f2_0 K3.1
  have f4_1 := Sta_keep0 f2_1 K3
  have f4_2 := Sta_keep0 f2_2 K3
  have f4_3 := f2_3.keep K3 nin0
  have f4_4 := CHv.keep K3 sf0 f2_4
  have f4_5 := Nat.le_trans f2_5 K3.1
  have f4_6 := Safe.keep K3 sf0 f2_4 f2_6
  have f4_7 := Safe.keep K3 sf0 f2_4 f2_7
  have f4_8 := o1_0.keep K3
  have f4_9 := o1_1.keep K3 nin0
  have f4_10 := o1_2.keep K3 nin0
  have f4_11 := o1_3.keep K3 nin0
  have f4_12 := Safe.keep K3 sf0 f2_4 sf_b3_0
  have f4_13 := Safe.keep K3 sf0 f2_4 sf_b3_1
  have N3 := Fr.app N1 N3q
  refine Wp.back (U' := (T3.setTop (mkF m 100 #[.val (.int p0), .val (.int p1), .val (.int p2), .val (.int p3), .val (.int p4), .val (.int 4), .val (.int 0), .val (.ref ta), .val (.ref b1_0), .unset, .unset] [(.ref b3_0)]))) st3 ?_
  refine Wp.back (U' := (T3.setTop (mkF m 104 #[.val (.int p0), .val (.int p1), .val (.int p2), .val (.int p3), .val (.int p4), .val (.int 4), .val (.int 0), .val (.ref ta), .val (.ref b1_0), .val (.ref b3_0), .unset] [(.ref b3_0)]))) (fun t k => XS.astore X3.here hx rfl (hb hby at_100) rfl rfl (l' := #[.val (.int p0), .val (.int p1), .val (.int p2), .val (.int p3), .val (.int p4), .val (.int 4), .val (.int 0), .val (.ref ta), .val (.ref b1_0), .val (.ref b3_0), .unset]) rfl (XS.aload X3.here hx rfl (hb hby at_102) rfl rfl k)) ?_
  obtain ⟨a5, T5, h5, k5, b5, kc5, X5, e5, E5, hS5, hk5, hZ, hown, A5, C5, V5, K5, la5, lb5, R5, L5, Sf5, st5⟩ := ldcCH X3 hx hZ hown (ow hw 38 rfl) wS rfl hS0 f4_5 hEL (List.mem_of_getElem? (i := 1) rfl) f4_4 (vs := [(.int 115)]) (z := (1 : Int32)) ⟨by decide, rfl⟩ (by decide) rfl (g := (mkF m 104 #[.val (.int p0), .val (.int p1), .val (.int p2), .val (.int p3), .val (.int p4), .val (.int 4), .val (.int 0), .val (.ref ta), .val (.ref b1_0), .val (.ref b3_0), .unset] [(.ref b3_0)])) rfl (hb hby at_104) (n := 4) (by decide) (by decide) (by decide) (by decide)
  have f6_0 := Nat.le_trans f4_0 E5.1
  have f6_1 := f4_1.ext E5
  have f6_2 := f4_2.ext E5
  have f6_3 := f4_3.ext E5
  have f6_4 := R5.1
  have f6_5 := hk5
  have f6_6 := CHr.safe R5 f4_8.lt f4_6
  have f6_7 := CHr.safe R5 f4_11.lt f4_7
  have f6_8 := f4_8.ext E5
  have f6_9 := f4_9.ext E5
  have f6_10 := f4_10.ext E5
  have f6_11 := f4_11.ext E5
  have f6_12 := CHr.safe R5 o3_0.lt f4_12
  have f6_13 := CHr.safe R5 o3_3.lt f4_13
  have f6_14 := o3_0.ext E5
  have f6_15 := o3_1.ext E5
  have f6_16 := o3_2.ext E5
  have f6_17 := o3_3.ext E5
  have ne_b1_0_a5 : b1_0 ≠ a5 := (Sf5 _ f6_6).1
  have ne_b1_0_b5 : b1_0 ≠ b5 := (Sf5 _ f6_6).2
  have ne_b1_1_a5 : b1_1 ≠ a5 := (Sf5 _ f6_7).1
  have ne_b1_1_b5 : b1_1 ≠ b5 := (Sf5 _ f6_7).2
  have ne_b3_0_a5 : b3_0 ≠ a5 := (Sf5 _ f6_12).1
  have ne_b3_0_b5 : b3_0 ≠ b5 := (Sf5 _ f6_12).2
  have ne_b3_1_a5 : b3_1 ≠ a5 := (Sf5 _ f6_13).1
  have ne_b3_1_b5 : b3_1 ≠ b5 := (Sf5 _ f6_13).2
  refine Wp.back (U' := (T5.setTop (mkF m 106 #[.val (.int p0), .val (.int p1), .val (.int p2), .val (.int p3), .val (.int p4), .val (.int 4), .val (.int 0), .val (.ref ta), .val (.ref b1_0), .val (.ref b3_0), .unset] [(.ref a5), (.ref b3_0)]))) st5 ?_
  obtain ⟨_, _, ⟨T7, L7, k7, n7⟩, -, X7, hS7, gr7, ⟨Lc7, hQ7, l7, y7, z7, R7⟩, st7⟩ := callSS X5 hx (y := Y21) hown (mvT hZ (ow hw 41 rfl)) (mvT hZ (ow hw 42 rfl)) (mvT hZ (ow hw 43 rfl)) (mvT hZ (ow hw 44 rfl)) (by decide) (backOfSH (W := 0) (rm_dgn4 l Z a0 hw [] b3_0 a5 b3_1 cs fm k3_0 (nar .byte ((nar .char c0)).toInt8.toInt32) (nar .byte ((nar .char c1)).toInt8.toInt32) (nar .byte ((nar .char c2)).toInt8.toInt32) (nar .byte ((nar .char c3)).toInt8.toInt32) h5 n0 f6_0 f6_14 f6_15 f6_16 f6_17 f6_1 f6_2 isr_fm (own_h2 hc0) (own_h2 hc1) (own_h2 hc2) (own_h2 hc3) (own_h3 hc3) hcs) hZ (ow hw 44 rfl) (ow hw 43 rfl) (by decide) (by decide) hEL f6_4) (g := (mkF m 106 #[.val (.int p0), .val (.int p1), .val (.int p2), .val (.int p3), .val (.int p4), .val (.int 4), .val (.int 0), .val (.ref ta), .val (.ref b1_0), .val (.ref b3_0), .unset] [(.ref a5), (.ref b3_0)])) rfl (by rw [hml]; rfl) (argsL := [(.ref b3_0), (.ref a5)]) (rest := []) (lenOf pd_25 rfl) rfl (Nat.le_of_eq rfl) (hb hby at_106) (fun _ _ => ⟨rfl, e5, (by decide : 9 + 2 ≤ _), (by decide : 159 + 8 ≤ _)⟩)
  dsimp only [Pt.U, Pt.locs, Pt.cells, Pt.slots] at X7 l7 y7 z7 st7 hQ7 hS7 gr7 R7
  subst l7 y7 z7
  obtain ⟨X7, hS7, hZ, hown⟩ := rebS hS5 (by rw [e5]; exact f6_5) X7 hS7 gr7 hZ hown
  obtain ⟨rfl, N7q, K7⟩ := hQ7
  have f8_0 := Nat.le_trans f6_0 K7.1
  have f8_1 := Sta_keep0 f6_1 K7
  have f8_2 := Sta_keep0 f6_2 K7
  have f8_3 := f6_3.keep K7 nin0
  have f8_4 := R7.1
  have f8_5 := Nat.le_refl T7.heap.size
  have f8_6 := CHr.safe R7 f6_8.lt f6_6
  have f8_7 := CHr.safe R7 f6_11.lt f6_7
  have f8_8 := f6_8.keep K7
  have f8_9 := f6_9.keep K7 nin0
  have f8_10 := f6_10.keep K7 nin0
  have f8_11 := f6_11.keep K7 nin0
  have f8_12 := CHr.safe R7 f6_14.lt f6_12
  have f8_13 := CHr.safe R7 f6_17.lt f6_13
  have f8_14 := f6_14.keep K7
  have f8_15 := f6_15.keep K7 nin0
  have f8_16 := f6_16.keep K7 nin0
  have f8_17 := f6_17.keep K7 nin0
  have f8_18 := A5.keep K7
  have f8_19 := C5.keep K7 nin0
  have f8_20 := V5.keep K7 nin0
  have f8_21 := K5.keep K7 nin0
  have N7 := Fr.app N3 N7q
  refine Wp.back (U' := (T7.setTop (mkF m 109 #[.val (.int p0), .val (.int p1), .val (.int p2), .val (.int p3), .val (.int p4), .val (.int 4), .val (.int 0), .val (.ref ta), .val (.ref b1_0), .val (.ref b3_0), .unset] [(.ref b3_0)]))) (fun t k => st7.trans k) ?_
  refine Wp.back (U' := (T7.setTop (mkF m 115 #[.val (.int p0), .val (.int p1), .val (.int p2), .val (.int p3), .val (.int p4), .val (.int 4), .val (.int 0), .val (.ref ta), .val (.ref b1_0), .val (.ref b3_0), .val (.ref b3_0)] [(.ref b1_0), (.ref b3_0)]))) (fun t k => XS.astore X7.here hx rfl (hb hby at_109) rfl rfl (l' := #[.val (.int p0), .val (.int p1), .val (.int p2), .val (.int p3), .val (.int p4), .val (.int 4), .val (.int 0), .val (.ref ta), .val (.ref b1_0), .val (.ref b3_0), .val (.ref b3_0)]) rfl (XS.aload X7.here hx rfl (hb hby at_111) rfl rfl (XS.aload X7.here hx rfl (hb hby at_113) rfl rfl k))) ?_
  obtain ⟨cq9, kq9, q9a, q9b, q9c⟩ := isOf hZ rfl f8_14
  obtain ⟨_, _, ⟨T9, L9, k9, n9⟩, -, X9, ⟨Lc9, hQ9, l9, y9, z9⟩, st9⟩ := X7.virtualBack hx (y := Y29) (z := Y29) hown (mvT hZ (ow hw 107 rfl)) (mvT hZ (ow hw 108 rfl)) (notFace_of_selects (args := #[]) (mvT hZ (ow hw 110 rfl))) (mvT hZ (ow hw 110 rfl)) (mvT hZ (ow hw 109 rfl)) (by decide) (backOf (W := 0) (rm_eqg l Z a0 hw [] b3_0 b1_0 b3_1 b1_1 k3_0 k1_0 cs (4 : Int32) [(.int (nar .byte ((nar .char c0)).toInt8.toInt32)), (.int (nar .byte ((nar .char c1)).toInt8.toInt32)), (.int (nar .byte ((nar .char c2)).toInt8.toInt32)), (.int (nar .byte ((nar .char c3)).toInt8.toInt32))] T7.heap n0 f8_0 f8_14 f8_15 f8_16 f8_17 f8_8 f8_9 f8_10 f8_11 f8_1 (Ne.symm ne_b1_0_b3_0) own_q4 hcs) hZ (ow hw 111 rfl) (ow hw 11 rfl) (by decide) (by decide)) q9a q9c (g := (mkF m 115 #[.val (.int p0), .val (.int p1), .val (.int p2), .val (.int p3), .val (.int p4), .val (.int 4), .val (.int 0), .val (.ref ta), .val (.ref b1_0), .val (.ref b3_0), .val (.ref b3_0)] [(.ref b1_0), (.ref b3_0)])) rfl (by rw [hml]; rfl) (Steps.refl _) (argsL := [(.ref b1_0)]) (rest := []) (lenOf pd_26 rfl) rfl (Nat.le_of_eq rfl) (hb hby at_115) (fun _ _ => ⟨rfl, rfl, (by decide : 11 + 0 ≤ _), (by decide : 167 + 0 ≤ _)⟩)
  dsimp only [Pt.U, Pt.locs, Pt.cells, Pt.slots] at X9 l9 y9 z9 st9 hQ9
  subst l9 y9 z9
  obtain ⟨rfl, N9q, K9⟩ := hQ9
  have f10_0 := Nat.le_trans f8_0 K9.1
  have f10_1 := Sta_keep0 f8_1 K9
  have f10_2 := Sta_keep0 f8_2 K9
  have f10_3 := f8_3.keep K9 nin0
  have f10_4 := CHv.keep K9 sf0 f8_4
  have f10_5 := Nat.le_trans f8_5 K9.1
  have f10_6 := Safe.keep K9 sf0 f8_4 f8_6
  have f10_7 := Safe.keep K9 sf0 f8_4 f8_7
  have f10_8 := f8_8.keep K9
  have f10_9 := f8_9.keep K9 nin0
  have f10_10 := f8_10.keep K9 nin0
  have f10_11 := f8_11.keep K9 nin0
  have f10_12 := Safe.keep K9 sf0 f8_4 f8_12
  have f10_13 := Safe.keep K9 sf0 f8_4 f8_13
  have f10_14 := f8_14.keep K9
  have f10_15 := f8_15.keep K9 nin0
  have f10_16 := f8_16.keep K9 nin0
  have f10_17 := f8_17.keep K9 nin0
  have f10_18 := f8_18.keep K9
  have f10_19 := f8_19.keep K9 nin0
  have f10_20 := f8_20.keep K9 nin0
  have f10_21 := f8_21.keep K9 nin0
  have N9 := Fr.app N7 N9q
  refine Wp.back (U' := (T9.setTop (mkF m 118 #[.val (.int p0), .val (.int p1), .val (.int p2), .val (.int p3), .val (.int p4), .val (.int 4), .val (.int 0), .val (.ref ta), .val (.ref b1_0), .val (.ref b3_0), .val (.ref b3_0)] [(.int 1)]))) (fun t k => st9.trans k) ?_
  obtain ⟨fs, hr, hrun, hended, hend⟩ := X9.leaveW hS7 f10_5 (v := (some (.int 1))) (fun h => by rw [hret] at h; cases h)
  refine Wp.done (retN X9 hx (t := .boolean) hret (by simp) (hb hby at_118) hr) hrun hended ⟨_, _, rfl, ?_, hend.1, hend.2.1, hend.2.2.1, hend.2.2.2.mono (by decide) (by decide)⟩
  show QL n0 _ T9.heap _
  exact ⟨rfl, N9⟩
set_option maxRecDepth 65536 in
set_option maxHeartbeats 40000000 in
theorem own_t1_1 {p : Program} {l : Launch} {e : Env} {s : State} {m : MethodId} {args : Array Value} {below : List Frame} {meth : Method} {c : Code} {T0 : State} {locs : List Loc} {Z : State} {a0 : Array Value} {hA : Heap} {n0 : Nat} {vm0 : Vm} {kk : Nat} (p0 p1 p2 p3 p4 : Int32) (ta : Addr) (kt : ClassId) (c0 c1 c2 c3 cs : Int32) (fm : Value)
    (hx : p.tables.exec = Jvm.exec) (hw : ∀ d ∈ tables_1, d.before a0 Z = true) (hby : c.code = code) (hml : c.maxLocals = 11) (hret : meth.sig.returnType = ret) (hlk : meth.locks = false) (hZ : Z.Warmed39 (s.setVm vm0).vm) (hown : (s.setVm vm0).vm.findClass "com/example/surebit/surebit/input/HexNumberDigitsPinLaw" = some m.cls) (X0 : Stand p l e room_1 (s.setVm vm0) m args below meth c T0 locs 1 5) (e0 : T0.heap = hA) (N0 : Fr n0 locs) (Z0 : n0 ≤ hA.size) (hS0 : s.Since vm0 kk) (hk0 : kk ≤ hA.size) (PC : Sta Z hA "java/lang/String" "COMPACT_STRINGS" "Z" (.int cs)) (PF : Sta Z hA "jdk/internal/util/Preconditions" "SIOOBE_FORMATTER" "Ljava/util/function/BiFunction;" fm) (TA : Arv Z hA ta kt .char (5 : Int32) [(.int c0), (.int c1), (.int c2), (.int c3), (.int 10)] (.int 0)) (hCH : CHv Z consts_1 vm0 hA) (gta : n0 ≤ ta) (hcs : ¬ cs = (0 : Int32)) (isr_fm : fm.isRef = true) (hc0 : own_H c0) (hc1 : own_H c1) (hc2 : own_H c2) (hc3 : own_H c3) :
    Wp p e below (fun o s₂ => ∃ v L, o = .returned v ∧ QL n0 v s₂.heap L ∧ ReturnedEndW s o s₂ L 32 2240) (T0.setTop (mkF m 60 #[.val (.int p0), .val (.int p1), .val (.int p2), .val (.int p3), .val (.int p4), .val (.int 1), .val (.int 1), .val (.ref ta), .unset, .unset, .unset] [])) := by
  have hEL : EW Z a0 consts_1 := own_EW hw
  have wS := own_wS hw
  refine Wp.back (U' := (T0.setTop (mkF m 64 #[.val (.int p0), .val (.int p1), .val (.int p2), .val (.int p3), .val (.int p4), .val (.int 1), .val (.int 1), .val (.ref ta), .unset, .unset, .unset] [(.int 1), (.ref ta)]))) (fun t k => XS.aload X0.here hx rfl (hb hby at_60) rfl rfl (XS.iload X0.here hx rfl (hb hby at_62) rfl k)) ?_
  obtain ⟨_, _, ⟨T1, L1, k1, n1⟩, -, X1, ⟨Lc1, hQ1, l1, y1, z1⟩, st1⟩ := Jvm.LawKit.callS X0 hx (y := Y27) hown (mvT hZ (ow hw 6 rfl)) (mvT hZ (ow hw 7 rfl)) (mvT hZ (ow hw 3 rfl)) (mvT hZ (ow hw 8 rfl)) (by decide) (backOf (W := 0) (rm_tk1 l Z a0 hw [] ta kt c0 c1 c2 c3 (10 : Int32) cs hA n0 Z0 TA PC (own_h1 hc0) hcs) hZ (ow hw 8 rfl) (ow hw 3 rfl) (by decide) (by decide)) (g := (mkF m 64 #[.val (.int p0), .val (.int p1), .val (.int p2), .val (.int p3), .val (.int p4), .val (.int 1), .val (.int 1), .val (.ref ta), .unset, .unset, .unset] [(.int 1), (.ref ta)])) rfl (by rw [hml]; rfl) (argsL := [(.ref ta), (.int 1)]) (rest := []) (lenOf pd_24 rfl) rfl (Nat.le_of_eq rfl) (hb hby at_64) (fun _ _ => ⟨rfl, e0, (by decide : 1 + 3 ≤ _), (by decide : 5 + 70 ≤ _)⟩)
  dsimp only [Pt.U, Pt.locs, Pt.cells, Pt.slots] at X1 l1 y1 z1 st1 hQ1
  subst l1 y1 z1
  obtain ⟨b1_0, b1_1, k1_0, rfl, N1q, K1, sf1_0, sf1_1, o1_0, o1_1, o1_2, o1_3⟩ := hQ1
  have ne_ta_b1_0 : ta ≠ b1_0 := Nat.ne_of_lt (Nat.lt_of_lt_of_le TA.lt sf1_0)
  have g_b1_0 : n0 ≤ b1_0 := Nat.le_trans Z0 sf1_0
  have ne_ta_b1_1 : ta ≠ b1_1 := Nat.ne_of_lt (Nat.lt_of_lt_of_le TA.lt sf1_1)
  have g_b1_1 : n0 ≤ b1_1 := Nat.le_trans Z0 sf1_1
  have sf_b1_0 : Safe Z consts_1 vm0 hA b1_0 := Safe.new sf1_0
  have sf_b1_1 : Safe Z consts_1 vm0 hA b1_1 := Safe.new sf1_1
  have f2_0 := Nat.le_trans Z0 K1.1
  have f2_1 := Sta_keep0 PC K1
  have f2_2 := Sta_keep0 PF K1
  have f2_3 := TA.keep K1 nin0
  have f2_4 := CHv.keep K1 sf0 hCH
  have f2_5 := Nat.le_trans hk0 K1.1
  have f2_6 := Safe.keep K1 sf0 hCH sf_b1_0
  have f2_7 := Safe.keep K1 sf0 hCH sf_b1_1
  have N1 := Fr.app N0 N1q
  refine Wp.back (U' := (T1.setTop (mkF m 67 #[.val (.int p0), .val (.int p1), .val (.int p2), .val (.int p3), .val (.int p4), .val (.int 1), .val (.int 1), .val (.ref ta), .unset, .unset, .unset] [(.ref b1_0)]))) st1 ?_
  refine Wp.back (U' := (T1.setTop (mkF m 80 #[.val (.int p0), .val (.int p1), .val (.int p2), .val (.int p3), .val (.int p4), .val (.int 1), .val (.int 1), .val (.ref ta), .val (.ref b1_0), .unset, .unset] [(.int 10), (.int 1), (.ref ta)]))) (fun t k => XS.astore X1.here hx rfl (hb hby at_67) rfl rfl (l' := #[.val (.int p0), .val (.int p1), .val (.int p2), .val (.int p3), .val (.int p4), .val (.int 1), .val (.int 1), .val (.ref ta), .val (.ref b1_0), .unset, .unset]) rfl (XS.iload X1.here hx rfl (hb hby at_69) rfl (XS.ifNo X1.here hx rfl (hb hby at_71) rfl ((if0 _ _).trans (feq (by decide)).1) (XS.aload X1.here hx rfl (hb hby at_74) rfl rfl (XS.iload X1.here hx rfl (hb hby at_76) rfl (XT.bipushV X1.here hx rfl 10 (hb hby at_78) (by decide) k)))))) ?_
  have vq3 := f2_3
  obtain ⟨cl3, Ar3, qa3, qs3, qn3, qh3, qg3⟩ := vq3
  have hin3 : ¬ ((1 : Int32) < 0 ∨ cl3.slots.size ≤ ((1 : Int32)).toNatClampNeg) := inb_of qs3 ⟨by decide, by decide⟩
  obtain ⟨T3, h3, X3, e3, W3, st3⟩ := stC X1 hx hZ rfl Ar3 (j := (1 : Int32)) hin3 (g := (mkF m 80 #[.val (.int p0), .val (.int p1), .val (.int p2), .val (.int p3), .val (.int p4), .val (.int 1), .val (.int 1), .val (.ref ta), .val (.ref b1_0), .unset, .unset] [(.int 10), (.int 1), (.ref ta)])) rfl rfl (hb hby at_80)
  have V3 : Arv Z h3 ta kt .char (5 : Int32) [(.int c0), (.int 10), (.int c2), (.int c3), (.int 10)] (.int 0) := Arv.set Ar3 qa3 qs3 qn3 qh3 qg3 (fits_nar_char (10 : Int32)) W3 1 rfl (Nat.le_of_ble_eq_true rfl)
  have f4_0 := Nat.le_trans f2_0 (Keep.of_wr W3).1
  have f4_1 := f2_1.wr W3
  have f4_2 := f2_2.wr W3
  have f4_3 := CHv.wr W3 (Safe.arv hZ.alike f2_3 (by decide)) f2_4
  have f4_4 := Nat.le_trans f2_5 (Keep.of_wr W3).1
  have f4_5 := Safe.wr W3 (Safe.arv hZ.alike f2_3 (by decide)) f2_4 f2_6
  have f4_6 := Safe.wr W3 (Safe.arv hZ.alike f2_3 (by decide)) f2_4 f2_7
  have f4_7 := o1_0.wr W3
  have f4_8 := o1_1.other W3 (Or.inl (Ne.symm ne_ta_b1_0))
  have f4_9 := o1_2.other W3 (Or.inl (Ne.symm ne_ta_b1_0))
  have f4_10 := o1_3.other W3 (Ne.symm ne_ta_b1_1)
  have N3 := Fr.snoc X3 N1 gta
  refine Wp.back (U' := (T3.setTop (mkF m 81 #[.val (.int p0), .val (.int p1), .val (.int p2), .val (.int p3), .val (.int p4), .val (.int 1), .val (.int 1), .val (.ref ta), .val (.ref b1_0), .unset, .unset] []))) st3 ?_
  refine Wp.back (U' := (T3.setTop (mkF m 97 #[.val (.int p0), .val (.int p1), .val (.int p2), .val (.int p3), .val (.int p4), .val (.int 1), .val (.int 1), .val (.ref ta), .val (.ref b1_0), .unset, .unset] [(.int 2), (.ref ta)]))) (fun t k => XS.aload X3.here hx rfl (hb hby at_81) rfl rfl (XS.iload X3.here hx rfl (hb hby at_83) rfl (XS.ifNo X3.here hx rfl (hb hby at_85) rfl ((if0 _ _).trans (feq (by decide)).1) (XS.iload X3.here hx rfl (hb hby at_88) rfl (XT.iconstV X3.here hx rfl 1 (hb hby at_90) (by decide) (XS.iadd X3.here hx rfl (hb hby at_91) rfl (XS.goto X3.here hx rfl (pc0 := 92) (pc' := 97) rfl (hb hby at_92) (by decide) (by decide) k))))))) ?_
  obtain ⟨_, _, ⟨T5, L5, k5, n5⟩, -, X5, ⟨Lc5, hQ5, l5, y5, z5⟩, st5⟩ := Jvm.LawKit.callS X3 hx (y := Y27) hown (mvT hZ (ow hw 6 rfl)) (mvT hZ (ow hw 7 rfl)) (mvT hZ (ow hw 3 rfl)) (mvT hZ (ow hw 8 rfl)) (by decide) (backOf (W := 0) (rm_tk2 l Z a0 hw [] ta kt c0 (10 : Int32) c2 c3 (10 : Int32) cs h3 n0 f4_0 V3 f4_1 (own_h1 hc0) (by decide) hcs) hZ (ow hw 8 rfl) (ow hw 3 rfl) (by decide) (by decide)) (g := (mkF m 97 #[.val (.int p0), .val (.int p1), .val (.int p2), .val (.int p3), .val (.int p4), .val (.int 1), .val (.int 1), .val (.ref ta), .val (.ref b1_0), .unset, .unset] [(.int 2), (.ref ta)])) rfl (by rw [hml]; rfl) (argsL := [(.ref ta), (.int 2)]) (rest := []) (lenOf pd_24 rfl) rfl (Nat.le_of_eq rfl) (hb hby at_97) (fun _ _ => ⟨rfl, e3, (by decide : 4 + 3 ≤ _), (by decide : 75 + 71 ≤ _)⟩)
  dsimp only [Pt.U, Pt.locs, Pt.cells, Pt.slots] at X5 l5 y5 z5 st5 hQ5
  subst l5 y5 z5
  obtain ⟨b5_0, b5_1, k5_0, rfl, N5q, K5, sf5_0, sf5_1, o5_0, o5_1, o5_2, o5_3⟩ := hQ5
  have ne_ta_b5_0 : ta ≠ b5_0 := Nat.ne_of_lt (Nat.lt_of_lt_of_le V3.lt sf5_0)
  have ne_b1_0_b5_0 : b1_0 ≠ b5_0 := Nat.ne_of_lt (Nat.lt_of_lt_of_le f4_7.lt sf5_0)
  have ne_b1_1_b5_0 : b1_1 ≠ b5_0 := Nat.ne_of_lt (Nat.lt_of_lt_of_le f4_10.lt sf5_0)
  have g_b5_0 : n0 ≤ b5_0 := Nat.le_trans f4_0 sf5_0
  have ne_ta_b5_1 : ta ≠ b5_1 := Nat.ne_of_lt (Nat.lt_of_lt_of_le V3.lt sf5_1)
  have ne_b1_0_b5_1 : b1_0 ≠ b5_1 := Nat.ne_of_lt (Nat.lt_of_lt_of_le f4_7.lt sf5_1)
  have ne_b1_1_b5_1 : b1_1 ≠ b5_1 := Nat.ne_of_lt (Nat.lt_of_lt_of_le f4_10.lt sf5_1)
  have g_b5_1 : n0 ≤ b5_1 := Nat.le_trans f4_0 sf5_1
  have sf_b5_0 : Safe Z consts_1 vm0 h3 b5_0 := Safe.new sf5_0
  have sf_b5_1 : Safe Z consts_1 vm0 h3 b5_1 := Safe.new sf5_1
  have f6_0 := Nat.le_trans f4_0 K5.1
  have f6_1 := Sta_keep0 f4_1 K5
  have f6_2 := Sta_keep0 f4_2 K5
  have f6_3 := CHv.keep K5 sf0 f4_3
  have f6_4 := Nat.le_trans f4_4 K5.1
  have f6_5 := Safe.keep K5 sf0 f4_3 f4_5
  have f6_6 := Safe.keep K5 sf0 f4_3 f4_6
  have f6_7 := f4_7.keep K5
  have f6_8 := f4_8.keep K5 nin0
  have f6_9 := f4_9.keep K5 nin0
  have f6_10 := f4_10.keep K5 nin0
  have f6_11 := V3.keep K5 nin0
  have f6_12 := Safe.keep K5 sf0 f4_3 sf_b5_0
  have f6_13 := Safe.keep K5 sf0 f4_3 sf_b5_1
  have N5 := Fr.app N3 N5q
  refine Wp.back (U' := (T5.setTop (mkF m 100 #[.val (.int p0), .val (.int p1), .val (.int p2), .val (.int p3), .val (.int p4), .val (.int 1), .val (.int 1), .val (.ref ta), .val (.ref b1_0), .unset, .unset] [(.ref b5_0)]))) st5 ?_
  refine Wp.back (U' := (T5.setTop (mkF m 104 #[.val (.int p0), .val (.int p1), .val (.int p2), .val (.int p3), .val (.int p4), .val (.int 1), .val (.int 1), .val (.ref ta), .val (.ref b1_0), .val (.ref b5_0), .unset] [(.ref b5_0)]))) (fun t k => XS.astore X5.here hx rfl (hb hby at_100) rfl rfl (l' := #[.val (.int p0), .val (.int p1), .val (.int p2), .val (.int p3), .val (.int p4), .val (.int 1), .val (.int 1), .val (.ref ta), .val (.ref b1_0), .val (.ref b5_0), .unset]) rfl (XS.aload X5.here hx rfl (hb hby at_102) rfl rfl k)) ?_
  obtain ⟨a7, T7, h7, k7, b7, kc7, X7, e7, E7, hS7, hk7, hZ, hown, A7, C7, V7, K7, la7, lb7, R7, L7, Sf7, st7⟩ := ldcCH X5 hx hZ hown (ow hw 38 rfl) wS rfl hS0 f6_4 hEL (List.mem_of_getElem? (i := 1) rfl) f6_3 (vs := [(.int 115)]) (z := (1 : Int32)) ⟨by decide, rfl⟩ (by decide) rfl (g := (mkF m 104 #[.val (.int p0), .val (.int p1), .val (.int p2), .val (.int p3), .val (.int p4), .val (.int 1), .val (.int 1), .val (.ref ta), .val (.ref b1_0), .val (.ref b5_0), .unset] [(.ref b5_0)])) rfl (hb hby at_104) (n := 4) (by decide) (by decide) (by decide) (by decide)
  have f8_0 := Nat.le_trans f6_0 E7.1
  have f8_1 := f6_1.ext E7
  have f8_2 := f6_2.ext E7
  have f8_3 := R7.1
  have f8_4 := hk7
  have f8_5 := CHr.safe R7 f6_7.lt f6_5
  have f8_6 := CHr.safe R7 f6_10.lt f6_6
  have f8_7 := f6_7.ext E7
  have f8_8 := f6_8.ext E7
  have f8_9 := f6_9.ext E7
  have f8_10 := f6_10.ext E7
  have f8_11 := f6_11.ext E7
  have f8_12 := CHr.safe R7 o5_0.lt f6_12
  have f8_13 := CHr.safe R7 o5_3.lt f6_13
  have f8_14 := o5_0.ext E7
  have f8_15 := o5_1.ext E7
  have f8_16 := o5_2.ext E7
  have f8_17 := o5_3.ext E7
  have ne_b1_0_a7 : b1_0 ≠ a7 := (Sf7 _ f8_5).1
  have ne_b1_0_b7 : b1_0 ≠ b7 := (Sf7 _ f8_5).2
  have ne_b1_1_a7 : b1_1 ≠ a7 := (Sf7 _ f8_6).1
  have ne_b1_1_b7 : b1_1 ≠ b7 := (Sf7 _ f8_6).2
  have ne_b5_0_a7 : b5_0 ≠ a7 := (Sf7 _ f8_12).1
  have ne_b5_0_b7 : b5_0 ≠ b7 := (Sf7 _ f8_12).2
  have ne_b5_1_a7 : b5_1 ≠ a7 := (Sf7 _ f8_13).1
  have ne_b5_1_b7 : b5_1 ≠ b7 := (Sf7 _ f8_13).2
  refine Wp.back (U' := (T7.setTop (mkF m 106 #[.val (.int p0), .val (.int p1), .val (.int p2), .val (.int p3), .val (.int p4), .val (.int 1), .val (.int 1), .val (.ref ta), .val (.ref b1_0), .val (.ref b5_0), .unset] [(.ref a7), (.ref b5_0)]))) st7 ?_
  obtain ⟨_, _, ⟨T9, L9, k9, n9⟩, -, X9, hS9, gr9, ⟨Lc9, hQ9, l9, y9, z9, R9⟩, st9⟩ := callSS X7 hx (y := Y21) hown (mvT hZ (ow hw 41 rfl)) (mvT hZ (ow hw 42 rfl)) (mvT hZ (ow hw 43 rfl)) (mvT hZ (ow hw 44 rfl)) (by decide) (backOfSH (W := 0) (rm_dge2 l Z a0 hw [] b5_0 a7 b5_1 cs fm k5_0 (nar .byte ((nar .char c0)).toInt8.toInt32) (nar .byte ((nar .char (10 : Int32))).toInt8.toInt32) h7 n0 f8_0 f8_14 f8_15 f8_16 f8_17 f8_1 f8_2 isr_fm (own_h2 hc0) (by decide) hcs) hZ (ow hw 44 rfl) (ow hw 43 rfl) (by decide) (by decide) hEL f8_3) (g := (mkF m 106 #[.val (.int p0), .val (.int p1), .val (.int p2), .val (.int p3), .val (.int p4), .val (.int 1), .val (.int 1), .val (.ref ta), .val (.ref b1_0), .val (.ref b5_0), .unset] [(.ref a7), (.ref b5_0)])) rfl (by rw [hml]; rfl) (argsL := [(.ref b5_0), (.ref a7)]) (rest := []) (lenOf pd_25 rfl) rfl (Nat.le_of_eq rfl) (hb hby at_106) (fun _ _ => ⟨rfl, e7, (by decide : 9 + 4 ≤ _), (by decide : 154 + 13 ≤ _)⟩)
  dsimp only [Pt.U, Pt.locs, Pt.cells, Pt.slots] at X9 l9 y9 z9 st9 hQ9 hS9 gr9 R9
  subst l9 y9 z9
  obtain ⟨X9, hS9, hZ, hown⟩ := rebS hS7 (by rw [e7]; exact f8_4) X9 hS9 gr9 hZ hown
  obtain ⟨b9_0, b9_1, k9_0, rfl, N9q, K9, sf9_0, sf9_1, o9_0, o9_1, o9_2, o9_3⟩ := hQ9
  have ne_ta_b9_0 : ta ≠ b9_0 := Nat.ne_of_lt (Nat.lt_of_lt_of_le f8_11.lt sf9_0)
  have ne_b1_0_b9_0 : b1_0 ≠ b9_0 := Nat.ne_of_lt (Nat.lt_of_lt_of_le f8_7.lt sf9_0)
  have ne_b1_1_b9_0 : b1_1 ≠ b9_0 := Nat.ne_of_lt (Nat.lt_of_lt_of_le f8_10.lt sf9_0)
  have ne_b5_0_b9_0 : b5_0 ≠ b9_0 := Nat.ne_of_lt (Nat.lt_of_lt_of_le f8_14.lt sf9_0)
  have ne_b5_1_b9_0 : b5_1 ≠ b9_0 := Nat.ne_of_lt (Nat.lt_of_lt_of_le f8_17.lt sf9_0)
  have ne_a7_b9_0 : a7 ≠ b9_0 := Nat.ne_of_lt (Nat.lt_of_lt_of_le A7.lt sf9_0)
  have ne_b7_b9_0 : b7 ≠ b9_0 := Nat.ne_of_lt (Nat.lt_of_lt_of_le K7.lt sf9_0)
  have g_b9_0 : n0 ≤ b9_0 := Nat.le_trans f8_0 sf9_0
  have ne_ta_b9_1 : ta ≠ b9_1 := Nat.ne_of_lt (Nat.lt_of_lt_of_le f8_11.lt sf9_1)
  have ne_b1_0_b9_1 : b1_0 ≠ b9_1 := Nat.ne_of_lt (Nat.lt_of_lt_of_le f8_7.lt sf9_1)
  have ne_b1_1_b9_1 : b1_1 ≠ b9_1 := Nat.ne_of_lt (Nat.lt_of_lt_of_le f8_10.lt sf9_1)
  have ne_b5_0_b9_1 : b5_0 ≠ b9_1 := Nat.ne_of_lt (Nat.lt_of_lt_of_le f8_14.lt sf9_1)
  have ne_b5_1_b9_1 : b5_1 ≠ b9_1 := Nat.ne_of_lt (Nat.lt_of_lt_of_le f8_17.lt sf9_1)
  have ne_a7_b9_1 : a7 ≠ b9_1 := Nat.ne_of_lt (Nat.lt_of_lt_of_le A7.lt sf9_1)
  have ne_b7_b9_1 : b7 ≠ b9_1 := Nat.ne_of_lt (Nat.lt_of_lt_of_le K7.lt sf9_1)
  have g_b9_1 : n0 ≤ b9_1 := Nat.le_trans f8_0 sf9_1
  have f10_0 := Nat.le_trans f8_0 K9.1
  have f10_1 := Sta_keep0 f8_1 K9
  have f10_2 := Sta_keep0 f8_2 K9
  have f10_3 := R9.1
  have f10_4 := Nat.le_refl T9.heap.size
  have f10_5 := CHr.safe R9 f8_7.lt f8_5
  have f10_6 := CHr.safe R9 f8_10.lt f8_6
  have f10_7 := f8_7.keep K9
  have f10_8 := f8_8.keep K9 nin0
  have f10_9 := f8_9.keep K9 nin0
  have f10_10 := f8_10.keep K9 nin0
  have f10_11 := f8_11.keep K9 nin0
  have f10_12 := CHr.safe R9 f8_14.lt f8_12
  have f10_13 := CHr.safe R9 f8_17.lt f8_13
  have f10_14 := f8_14.keep K9
  have f10_15 := f8_15.keep K9 nin0
  have f10_16 := f8_16.keep K9 nin0
  have f10_17 := f8_17.keep K9 nin0
  have f10_18 := A7.keep K9
  have f10_19 := C7.keep K9 nin0
  have f10_20 := V7.keep K9 nin0
  have f10_21 := K7.keep K9 nin0
  have N9 := Fr.app N5 N9q
  refine Wp.back (U' := (T9.setTop (mkF m 109 #[.val (.int p0), .val (.int p1), .val (.int p2), .val (.int p3), .val (.int p4), .val (.int 1), .val (.int 1), .val (.ref ta), .val (.ref b1_0), .val (.ref b5_0), .unset] [(.ref b9_0)]))) (fun t k => st9.trans k) ?_
  refine Wp.back (U' := (T9.setTop (mkF m 115 #[.val (.int p0), .val (.int p1), .val (.int p2), .val (.int p3), .val (.int p4), .val (.int 1), .val (.int 1), .val (.ref ta), .val (.ref b1_0), .val (.ref b5_0), .val (.ref b9_0)] [(.ref b1_0), (.ref b9_0)]))) (fun t k => XS.astore X9.here hx rfl (hb hby at_109) rfl rfl (l' := #[.val (.int p0), .val (.int p1), .val (.int p2), .val (.int p3), .val (.int p4), .val (.int 1), .val (.int 1), .val (.ref ta), .val (.ref b1_0), .val (.ref b5_0), .val (.ref b9_0)]) rfl (XS.aload X9.here hx rfl (hb hby at_111) rfl rfl (XS.aload X9.here hx rfl (hb hby at_113) rfl rfl k))) ?_
  obtain ⟨cq11, kq11, q11a, q11b, q11c⟩ := isOf hZ rfl o9_0
  obtain ⟨_, _, ⟨T11, L11, k11, n11⟩, -, X11, ⟨Lc11, hQ11, l11, y11, z11⟩, st11⟩ := X9.virtualBack hx (y := Y29) (z := Y29) hown (mvT hZ (ow hw 107 rfl)) (mvT hZ (ow hw 108 rfl)) (notFace_of_selects (args := #[]) (mvT hZ (ow hw 110 rfl))) (mvT hZ (ow hw 110 rfl)) (mvT hZ (ow hw 109 rfl)) (by decide) (backOf (W := 0) (rm_eqg l Z a0 hw [] b9_0 b1_0 b9_1 b1_1 k9_0 k1_0 cs (1 : Int32) [(.int (nar .byte ((nar .char c0)).toInt8.toInt32))] T9.heap n0 f10_0 o9_0 o9_1 o9_2 o9_3 f10_7 f10_8 f10_9 f10_10 f10_1 (Ne.symm ne_b1_0_b9_0) own_q1 hcs) hZ (ow hw 111 rfl) (ow hw 11 rfl) (by decide) (by decide)) q11a q11c (g := (mkF m 115 #[.val (.int p0), .val (.int p1), .val (.int p2), .val (.int p3), .val (.int p4), .val (.int 1), .val (.int 1), .val (.ref ta), .val (.ref b1_0), .val (.ref b5_0), .val (.ref b9_0)] [(.ref b1_0), (.ref b9_0)])) rfl (by rw [hml]; rfl) (Steps.refl _) (argsL := [(.ref b1_0)]) (rest := []) (lenOf pd_26 rfl) rfl (Nat.le_of_eq rfl) (hb hby at_115) (fun _ _ => ⟨rfl, rfl, (by decide : 13 + 0 ≤ _), (by decide : 167 + 0 ≤ _)⟩)
  dsimp only [Pt.U, Pt.locs, Pt.cells, Pt.slots] at X11 l11 y11 z11 st11 hQ11
  subst l11 y11 z11
  obtain ⟨rfl, N11q, K11⟩ := hQ11
  have f12_0 := Nat.le_trans f10_0 K11.1
  have f12_1 := Sta_keep0 f10_1 K11
  have f12_2 := Sta_keep0 f10_2 K11
  have f12_3 := CHv.keep K11 sf0 f10_3
  have f12_4 := Nat.le_trans f10_4 K11.1
  have f12_5 := Safe.keep K11 sf0 f10_3 f10_5
  have f12_6 := Safe.keep K11 sf0 f10_3 f10_6
  have f12_7 := f10_7.keep K11
  have f12_8 := f10_8.keep K11 nin0
  have f12_9 := f10_9.keep K11 nin0
  have f12_10 := f10_10.keep K11 nin0
  have f12_11 := f10_11.keep K11 nin0
  have f12_12 := Safe.keep K11 sf0 f10_3 f10_12
  have f12_13 := Safe.keep K11 sf0 f10_3 f10_13
  have f12_14 := f10_14.keep K11
  have f12_15 := f10_15.keep K11 nin0
  have f12_16 := f10_16.keep K11 nin0
  have f12_17 := f10_17.keep K11 nin0
  have f12_18 := f10_18.keep K11
  have f12_19 := f10_19.keep K11 nin0
  have f12_20 := f10_20.keep K11 nin0
  have f12_21 := f10_21.keep K11 nin0
  have f12_22 := o9_0.keep K11
  have f12_23 := o9_1.keep K11 nin0
  have f12_24 := o9_2.keep K11 nin0
  have f12_25 := o9_3.keep K11 nin0
  have N11 := Fr.app N9 N11q
  refine Wp.back (U' := (T11.setTop (mkF m 118 #[.val (.int p0), .val (.int p1), .val (.int p2), .val (.int p3), .val (.int p4), .val (.int 1), .val (.int 1), .val (.ref ta), .val (.ref b1_0), .val (.ref b5_0), .val (.ref b9_0)] [(.int 1)]))) (fun t k => st11.trans k) ?_
  obtain ⟨fs, hr, hrun, hended, hend⟩ := X11.leaveW hS9 f12_4 (v := (some (.int 1))) (fun h => by rw [hret] at h; cases h)
  refine Wp.done (retN X11 hx (t := .boolean) hret (by simp) (hb hby at_118) hr) hrun hended ⟨_, _, rfl, ?_, hend.1, hend.2.1, hend.2.2.1, hend.2.2.2.mono (by decide) (by decide)⟩
  show QL n0 _ T11.heap _
  exact ⟨rfl, N11⟩
set_option maxRecDepth 65536 in
set_option maxHeartbeats 40000000 in
theorem own_t2_1 {p : Program} {l : Launch} {e : Env} {s : State} {m : MethodId} {args : Array Value} {below : List Frame} {meth : Method} {c : Code} {T0 : State} {locs : List Loc} {Z : State} {a0 : Array Value} {hA : Heap} {n0 : Nat} {vm0 : Vm} {kk : Nat} (p0 p1 p2 p3 p4 : Int32) (ta : Addr) (kt : ClassId) (c0 c1 c2 c3 cs : Int32) (fm : Value)
    (hx : p.tables.exec = Jvm.exec) (hw : ∀ d ∈ tables_1, d.before a0 Z = true) (hby : c.code = code) (hml : c.maxLocals = 11) (hret : meth.sig.returnType = ret) (hlk : meth.locks = false) (hZ : Z.Warmed39 (s.setVm vm0).vm) (hown : (s.setVm vm0).vm.findClass "com/example/surebit/surebit/input/HexNumberDigitsPinLaw" = some m.cls) (X0 : Stand p l e room_1 (s.setVm vm0) m args below meth c T0 locs 1 5) (e0 : T0.heap = hA) (N0 : Fr n0 locs) (Z0 : n0 ≤ hA.size) (hS0 : s.Since vm0 kk) (hk0 : kk ≤ hA.size) (PC : Sta Z hA "java/lang/String" "COMPACT_STRINGS" "Z" (.int cs)) (PF : Sta Z hA "jdk/internal/util/Preconditions" "SIOOBE_FORMATTER" "Ljava/util/function/BiFunction;" fm) (TA : Arv Z hA ta kt .char (5 : Int32) [(.int c0), (.int c1), (.int c2), (.int c3), (.int 10)] (.int 0)) (hCH : CHv Z consts_1 vm0 hA) (gta : n0 ≤ ta) (hcs : ¬ cs = (0 : Int32)) (isr_fm : fm.isRef = true) (hc0 : own_H c0) (hc1 : own_H c1) (hc2 : own_H c2) (hc3 : own_H c3) :
    Wp p e below (fun o s₂ => ∃ v L, o = .returned v ∧ QL n0 v s₂.heap L ∧ ReturnedEndW s o s₂ L 32 2240) (T0.setTop (mkF m 60 #[.val (.int p0), .val (.int p1), .val (.int p2), .val (.int p3), .val (.int p4), .val (.int 2), .val (.int 1), .val (.ref ta), .unset, .unset, .unset] [])) := by
  have hEL : EW Z a0 consts_1 := own_EW hw
  have wS := own_wS hw
  refine Wp.back (U' := (T0.setTop (mkF m 64 #[.val (.int p0), .val (.int p1), .val (.int p2), .val (.int p3), .val (.int p4), .val (.int 2), .val (.int 1), .val (.ref ta), .unset, .unset, .unset] [(.int 2), (.ref ta)]))) (fun t k => XS.aload X0.here hx rfl (hb hby at_60) rfl rfl (XS.iload X0.here hx rfl (hb hby at_62) rfl k)) ?_
  obtain ⟨_, _, ⟨T1, L1, k1, n1⟩, -, X1, ⟨Lc1, hQ1, l1, y1, z1⟩, st1⟩ := Jvm.LawKit.callS X0 hx (y := Y27) hown (mvT hZ (ow hw 6 rfl)) (mvT hZ (ow hw 7 rfl)) (mvT hZ (ow hw 3 rfl)) (mvT hZ (ow hw 8 rfl)) (by decide) (backOf (W := 0) (rm_tk2 l Z a0 hw [] ta kt c0 c1 c2 c3 (10 : Int32) cs hA n0 Z0 TA PC (own_h1 hc0) (own_h1 hc1) hcs) hZ (ow hw 8 rfl) (ow hw 3 rfl) (by decide) (by decide)) (g := (mkF m 64 #[.val (.int p0), .val (.int p1), .val (.int p2), .val (.int p3), .val (.int p4), .val (.int 2), .val (.int 1), .val (.ref ta), .unset, .unset, .unset] [(.int 2), (.ref ta)])) rfl (by rw [hml]; rfl) (argsL := [(.ref ta), (.int 2)]) (rest := []) (lenOf pd_24 rfl) rfl (Nat.le_of_eq rfl) (hb hby at_64) (fun _ _ => ⟨rfl, e0, (by decide : 1 + 3 ≤ _), (by decide : 5 + 71 ≤ _)⟩)
  dsimp only [Pt.U, Pt.locs, Pt.cells, Pt.slots] at X1 l1 y1 z1 st1 hQ1
  subst l1 y1 z1
  obtain ⟨b1_0, b1_1, k1_0, rfl, N1q, K1, sf1_0, sf1_1, o1_0, o1_1, o1_2, o1_3⟩ := hQ1
  have ne_ta_b1_0 : ta ≠ b1_0 := Nat.ne_of_lt (Nat.lt_of_lt_of_le TA.lt sf1_0)
  have g_b1_0 : n0 ≤ b1_0 := Nat.le_trans Z0 sf1_0
  have ne_ta_b1_1 : ta ≠ b1_1 := Nat.ne_of_lt (Nat.lt_of_lt_of_le TA.lt sf1_1)
  have g_b1_1 : n0 ≤ b1_1 := Nat.le_trans Z0 sf1_1
  have sf_b1_0 : Safe Z consts_1 vm0 hA b1_0 := Safe.new sf1_0
  have sf_b1_1 : Safe Z consts_1 vm0 hA b1_1 := Safe.new sf1_1
  have f2_0 := Nat.le_trans Z0 K1.1
  have f2_1 := Sta_keep0 PC K1
  have f2_2 := Sta_keep0 PF K1
  have f2_3 := TA.keep K1 nin0
  have f2_4 := CHv.keep K1 sf0 hCH
  have f2_5 := Nat.le_trans hk0 K1.1
  have f2_6 := Safe.keep K1 sf0 hCH sf_b1_0
  have f2_7 := Safe.keep K1 sf0 hCH sf_b1_1
  have N1 := Fr.app N0 N1q
  refine Wp.back (U' := (T1.setTop (mkF m 67 #[.val (.int p0), .val (.int p1), .val (.int p2), .val (.int p3), .val (.int p4), .val (.int 2), .val (.int 1), .val (.ref ta), .unset, .unset, .unset] [(.ref b1_0)]))) st1 ?_
  refine Wp.back (U' := (T1.setTop (mkF m 80 #[.val (.int p0), .val (.int p1), .val (.int p2), .val (.int p3), .val (.int p4), .val (.int 2), .val (.int 1), .val (.ref ta), .val (.ref b1_0), .unset, .unset] [(.int 10), (.int 2), (.ref ta)]))) (fun t k => XS.astore X1.here hx rfl (hb hby at_67) rfl rfl (l' := #[.val (.int p0), .val (.int p1), .val (.int p2), .val (.int p3), .val (.int p4), .val (.int 2), .val (.int 1), .val (.ref ta), .val (.ref b1_0), .unset, .unset]) rfl (XS.iload X1.here hx rfl (hb hby at_69) rfl (XS.ifNo X1.here hx rfl (hb hby at_71) rfl ((if0 _ _).trans (feq (by decide)).1) (XS.aload X1.here hx rfl (hb hby at_74) rfl rfl (XS.iload X1.here hx rfl (hb hby at_76) rfl (XT.bipushV X1.here hx rfl 10 (hb hby at_78) (by decide) k)))))) ?_
  have vq3 := f2_3
  obtain ⟨cl3, Ar3, qa3, qs3, qn3, qh3, qg3⟩ := vq3
  have hin3 : ¬ ((2 : Int32) < 0 ∨ cl3.slots.size ≤ ((2 : Int32)).toNatClampNeg) := inb_of qs3 ⟨by decide, by decide⟩
  obtain ⟨T3, h3, X3, e3, W3, st3⟩ := stC X1 hx hZ rfl Ar3 (j := (2 : Int32)) hin3 (g := (mkF m 80 #[.val (.int p0), .val (.int p1), .val (.int p2), .val (.int p3), .val (.int p4), .val (.int 2), .val (.int 1), .val (.ref ta), .val (.ref b1_0), .unset, .unset] [(.int 10), (.int 2), (.ref ta)])) rfl rfl (hb hby at_80)
  have V3 : Arv Z h3 ta kt .char (5 : Int32) [(.int c0), (.int c1), (.int 10), (.int c3), (.int 10)] (.int 0) := Arv.set Ar3 qa3 qs3 qn3 qh3 qg3 (fits_nar_char (10 : Int32)) W3 2 rfl (Nat.le_of_ble_eq_true rfl)
  have f4_0 := Nat.le_trans f2_0 (Keep.of_wr W3).1
  have f4_1 := f2_1.wr W3
  have f4_2 := f2_2.wr W3
  have f4_3 := CHv.wr W3 (Safe.arv hZ.alike f2_3 (by decide)) f2_4
  have f4_4 := Nat.le_trans f2_5 (Keep.of_wr W3).1
  have f4_5 := Safe.wr W3 (Safe.arv hZ.alike f2_3 (by decide)) f2_4 f2_6
  have f4_6 := Safe.wr W3 (Safe.arv hZ.alike f2_3 (by decide)) f2_4 f2_7
  have f4_7 := o1_0.wr W3
  have f4_8 := o1_1.other W3 (Or.inl (Ne.symm ne_ta_b1_0))
  have f4_9 := o1_2.other W3 (Or.inl (Ne.symm ne_ta_b1_0))
  have f4_10 := o1_3.other W3 (Ne.symm ne_ta_b1_1)
  have N3 := Fr.snoc X3 N1 gta
  refine Wp.back (U' := (T3.setTop (mkF m 81 #[.val (.int p0), .val (.int p1), .val (.int p2), .val (.int p3), .val (.int p4), .val (.int 2), .val (.int 1), .val (.ref ta), .val (.ref b1_0), .unset, .unset] []))) st3 ?_
  refine Wp.back (U' := (T3.setTop (mkF m 97 #[.val (.int p0), .val (.int p1), .val (.int p2), .val (.int p3), .val (.int p4), .val (.int 2), .val (.int 1), .val (.ref ta), .val (.ref b1_0), .unset, .unset] [(.int 3), (.ref ta)]))) (fun t k => XS.aload X3.here hx rfl (hb hby at_81) rfl rfl (XS.iload X3.here hx rfl (hb hby at_83) rfl (XS.ifNo X3.here hx rfl (hb hby at_85) rfl ((if0 _ _).trans (feq (by decide)).1) (XS.iload X3.here hx rfl (hb hby at_88) rfl (XT.iconstV X3.here hx rfl 1 (hb hby at_90) (by decide) (XS.iadd X3.here hx rfl (hb hby at_91) rfl (XS.goto X3.here hx rfl (pc0 := 92) (pc' := 97) rfl (hb hby at_92) (by decide) (by decide) k))))))) ?_
  obtain ⟨_, _, ⟨T5, L5, k5, n5⟩, -, X5, ⟨Lc5, hQ5, l5, y5, z5⟩, st5⟩ := Jvm.LawKit.callS X3 hx (y := Y27) hown (mvT hZ (ow hw 6 rfl)) (mvT hZ (ow hw 7 rfl)) (mvT hZ (ow hw 3 rfl)) (mvT hZ (ow hw 8 rfl)) (by decide) (backOf (W := 0) (rm_tk3 l Z a0 hw [] ta kt c0 c1 (10 : Int32) c3 (10 : Int32) cs h3 n0 f4_0 V3 f4_1 (own_h1 hc0) (own_h1 hc1) (by decide) hcs) hZ (ow hw 8 rfl) (ow hw 3 rfl) (by decide) (by decide)) (g := (mkF m 97 #[.val (.int p0), .val (.int p1), .val (.int p2), .val (.int p3), .val (.int p4), .val (.int 2), .val (.int 1), .val (.ref ta), .val (.ref b1_0), .unset, .unset] [(.int 3), (.ref ta)])) rfl (by rw [hml]; rfl) (argsL := [(.ref ta), (.int 3)]) (rest := []) (lenOf pd_24 rfl) rfl (Nat.le_of_eq rfl) (hb hby at_97) (fun _ _ => ⟨rfl, e3, (by decide : 4 + 3 ≤ _), (by decide : 76 + 72 ≤ _)⟩)
  dsimp only [Pt.U, Pt.locs, Pt.cells, Pt.slots] at X5 l5 y5 z5 st5 hQ5
  subst l5 y5 z5
  obtain ⟨b5_0, b5_1, k5_0, rfl, N5q, K5, sf5_0, sf5_1, o5_0, o5_1, o5_2, o5_3⟩ := hQ5
  have ne_ta_b5_0 : ta ≠ b5_0 := Nat.ne_of_lt (Nat.lt_of_lt_of_le V3.lt sf5_0)
  have ne_b1_0_b5_0 : b1_0 ≠ b5_0 := Nat.ne_of_lt (Nat.lt_of_lt_of_le f4_7.lt sf5_0)
  have ne_b1_1_b5_0 : b1_1 ≠ b5_0 := Nat.ne_of_lt (Nat.lt_of_lt_of_le f4_10.lt sf5_0)
  have g_b5_0 : n0 ≤ b5_0 := Nat.le_trans f4_0 sf5_0
  have ne_ta_b5_1 : ta ≠ b5_1 := Nat.ne_of_lt (Nat.lt_of_lt_of_le V3.lt sf5_1)
  have ne_b1_0_b5_1 : b1_0 ≠ b5_1 := Nat.ne_of_lt (Nat.lt_of_lt_of_le f4_7.lt sf5_1)
  have ne_b1_1_b5_1 : b1_1 ≠ b5_1 := Nat.ne_of_lt (Nat.lt_of_lt_of_le f4_10.lt sf5_1)
  have g_b5_1 : n0 ≤ b5_1 := Nat.le_trans f4_0 sf5_1
  have sf_b5_0 : Safe Z consts_1 vm0 h3 b5_0 := Safe.new sf5_0
  have sf_b5_1 : Safe Z consts_1 vm0 h3 b5_1 := Safe.new sf5_1
  have f6_0 := Nat.le_trans f4_0 K5.1
  have f6_1 := Sta_keep0 f4_1 K5
  have f6_2 := Sta_keep0 f4_2 K5
  have f6_3 := CHv.keep K5 sf0 f4_3
  have f6_4 := Nat.le_trans f4_4 K5.1
  have f6_5 := Safe.keep K5 sf0 f4_3 f4_5
  have f6_6 := Safe.keep K5 sf0 f4_3 f4_6
  have f6_7 := f4_7.keep K5
  have f6_8 := f4_8.keep K5 nin0
  have f6_9 := f4_9.keep K5 nin0
  have f6_10 := f4_10.keep K5 nin0
  have f6_11 := V3.keep K5 nin0
  have f6_12 := Safe.keep K5 sf0 f4_3 sf_b5_0
  have f6_13 := Safe.keep K5 sf0 f4_3 sf_b5_1
  have N5 := Fr.app N3 N5q
  refine Wp.back (U' := (T5.setTop (mkF m 100 #[.val (.int p0), .val (.int p1), .val (.int p2), .val (.int p3), .val (.int p4), .val (.int 2), .val (.int 1), .val (.ref ta), .val (.ref b1_0), .unset, .unset] [(.ref b5_0)]))) st5 ?_
  refine Wp.back (U' := (T5.setTop (mkF m 104 #[.val (.int p0), .val (.int p1), .val (.int p2), .val (.int p3), .val (.int p4), .val (.int 2), .val (.int 1), .val (.ref ta), .val (.ref b1_0), .val (.ref b5_0), .unset] [(.ref b5_0)]))) (fun t k => XS.astore X5.here hx rfl (hb hby at_100) rfl rfl (l' := #[.val (.int p0), .val (.int p1), .val (.int p2), .val (.int p3), .val (.int p4), .val (.int 2), .val (.int 1), .val (.ref ta), .val (.ref b1_0), .val (.ref b5_0), .unset]) rfl (XS.aload X5.here hx rfl (hb hby at_102) rfl rfl k)) ?_
  obtain ⟨a7, T7, h7, k7, b7, kc7, X7, e7, E7, hS7, hk7, hZ, hown, A7, C7, V7, K7, la7, lb7, R7, L7, Sf7, st7⟩ := ldcCH X5 hx hZ hown (ow hw 38 rfl) wS rfl hS0 f6_4 hEL (List.mem_of_getElem? (i := 1) rfl) f6_3 (vs := [(.int 115)]) (z := (1 : Int32)) ⟨by decide, rfl⟩ (by decide) rfl (g := (mkF m 104 #[.val (.int p0), .val (.int p1), .val (.int p2), .val (.int p3), .val (.int p4), .val (.int 2), .val (.int 1), .val (.ref ta), .val (.ref b1_0), .val (.ref b5_0), .unset] [(.ref b5_0)])) rfl (hb hby at_104) (n := 4) (by decide) (by decide) (by decide) (by decide)
  have f8_0 := Nat.le_trans f6_0 E7.1
  have f8_1 := f6_1.ext E7
  have f8_2 := f6_2.ext E7
  have f8_3 := R7.1
  have f8_4 := hk7
  have f8_5 := CHr.safe R7 f6_7.lt f6_5
  have f8_6 := CHr.safe R7 f6_10.lt f6_6
  have f8_7 := f6_7.ext E7
  have f8_8 := f6_8.ext E7
  have f8_9 := f6_9.ext E7
  have f8_10 := f6_10.ext E7
  have f8_11 := f6_11.ext E7
  have f8_12 := CHr.safe R7 o5_0.lt f6_12
  have f8_13 := CHr.safe R7 o5_3.lt f6_13
  have f8_14 := o5_0.ext E7
  have f8_15 := o5_1.ext E7
  have f8_16 := o5_2.ext E7
  have f8_17 := o5_3.ext E7
  have ne_b1_0_a7 : b1_0 ≠ a7 := (Sf7 _ f8_5).1
  have ne_b1_0_b7 : b1_0 ≠ b7 := (Sf7 _ f8_5).2
  have ne_b1_1_a7 : b1_1 ≠ a7 := (Sf7 _ f8_6).1
  have ne_b1_1_b7 : b1_1 ≠ b7 := (Sf7 _ f8_6).2
  have ne_b5_0_a7 : b5_0 ≠ a7 := (Sf7 _ f8_12).1
  have ne_b5_0_b7 : b5_0 ≠ b7 := (Sf7 _ f8_12).2
  have ne_b5_1_a7 : b5_1 ≠ a7 := (Sf7 _ f8_13).1
  have ne_b5_1_b7 : b5_1 ≠ b7 := (Sf7 _ f8_13).2
  refine Wp.back (U' := (T7.setTop (mkF m 106 #[.val (.int p0), .val (.int p1), .val (.int p2), .val (.int p3), .val (.int p4), .val (.int 2), .val (.int 1), .val (.ref ta), .val (.ref b1_0), .val (.ref b5_0), .unset] [(.ref a7), (.ref b5_0)]))) st7 ?_
  obtain ⟨_, _, ⟨T9, L9, k9, n9⟩, -, X9, hS9, gr9, ⟨Lc9, hQ9, l9, y9, z9, R9⟩, st9⟩ := callSS X7 hx (y := Y21) hown (mvT hZ (ow hw 41 rfl)) (mvT hZ (ow hw 42 rfl)) (mvT hZ (ow hw 43 rfl)) (mvT hZ (ow hw 44 rfl)) (by decide) (backOfSH (W := 0) (rm_dge3 l Z a0 hw [] b5_0 a7 b5_1 cs fm k5_0 (nar .byte ((nar .char c0)).toInt8.toInt32) (nar .byte ((nar .char c1)).toInt8.toInt32) (nar .byte ((nar .char (10 : Int32))).toInt8.toInt32) h7 n0 f8_0 f8_14 f8_15 f8_16 f8_17 f8_1 f8_2 isr_fm (own_h2 hc0) (own_h2 hc1) (by decide) hcs) hZ (ow hw 44 rfl) (ow hw 43 rfl) (by decide) (by decide) hEL f8_3) (g := (mkF m 106 #[.val (.int p0), .val (.int p1), .val (.int p2), .val (.int p3), .val (.int p4), .val (.int 2), .val (.int 1), .val (.ref ta), .val (.ref b1_0), .val (.ref b5_0), .unset] [(.ref a7), (.ref b5_0)])) rfl (by rw [hml]; rfl) (argsL := [(.ref b5_0), (.ref a7)]) (rest := []) (lenOf pd_25 rfl) rfl (Nat.le_of_eq rfl) (hb hby at_106) (fun _ _ => ⟨rfl, e7, (by decide : 9 + 4 ≤ _), (by decide : 156 + 14 ≤ _)⟩)
  dsimp only [Pt.U, Pt.locs, Pt.cells, Pt.slots] at X9 l9 y9 z9 st9 hQ9 hS9 gr9 R9
  subst l9 y9 z9
  obtain ⟨X9, hS9, hZ, hown⟩ := rebS hS7 (by rw [e7]; exact f8_4) X9 hS9 gr9 hZ hown
  obtain ⟨b9_0, b9_1, k9_0, rfl, N9q, K9, sf9_0, sf9_1, o9_0, o9_1, o9_2, o9_3⟩ := hQ9
  have ne_ta_b9_0 : ta ≠ b9_0 := Nat.ne_of_lt (Nat.lt_of_lt_of_le f8_11.lt sf9_0)
  have ne_b1_0_b9_0 : b1_0 ≠ b9_0 := Nat.ne_of_lt (Nat.lt_of_lt_of_le f8_7.lt sf9_0)
  have ne_b1_1_b9_0 : b1_1 ≠ b9_0 := Nat.ne_of_lt (Nat.lt_of_lt_of_le f8_10.lt sf9_0)
  have ne_b5_0_b9_0 : b5_0 ≠ b9_0 := Nat.ne_of_lt (Nat.lt_of_lt_of_le f8_14.lt sf9_0)
  have ne_b5_1_b9_0 : b5_1 ≠ b9_0 := Nat.ne_of_lt (Nat.lt_of_lt_of_le f8_17.lt sf9_0)
  have ne_a7_b9_0 : a7 ≠ b9_0 := Nat.ne_of_lt (Nat.lt_of_lt_of_le A7.lt sf9_0)
  have ne_b7_b9_0 : b7 ≠ b9_0 := Nat.ne_of_lt (Nat.lt_of_lt_of_le K7.lt sf9_0)
  have g_b9_0 : n0 ≤ b9_0 := Nat.le_trans f8_0 sf9_0
  have ne_ta_b9_1 : ta ≠ b9_1 := Nat.ne_of_lt (Nat.lt_of_lt_of_le f8_11.lt sf9_1)
  have ne_b1_0_b9_1 : b1_0 ≠ b9_1 := Nat.ne_of_lt (Nat.lt_of_lt_of_le f8_7.lt sf9_1)
  have ne_b1_1_b9_1 : b1_1 ≠ b9_1 := Nat.ne_of_lt (Nat.lt_of_lt_of_le f8_10.lt sf9_1)
  have ne_b5_0_b9_1 : b5_0 ≠ b9_1 := Nat.ne_of_lt (Nat.lt_of_lt_of_le f8_14.lt sf9_1)
  have ne_b5_1_b9_1 : b5_1 ≠ b9_1 := Nat.ne_of_lt (Nat.lt_of_lt_of_le f8_17.lt sf9_1)
  have ne_a7_b9_1 : a7 ≠ b9_1 := Nat.ne_of_lt (Nat.lt_of_lt_of_le A7.lt sf9_1)
  have ne_b7_b9_1 : b7 ≠ b9_1 := Nat.ne_of_lt (Nat.lt_of_lt_of_le K7.lt sf9_1)
  have g_b9_1 : n0 ≤ b9_1 := Nat.le_trans f8_0 sf9_1
  have f10_0 := Nat.le_trans f8_0 K9.1
  have f10_1 := Sta_keep0 f8_1 K9
  have f10_2 := Sta_keep0 f8_2 K9
  have f10_3 := R9.1
  have f10_4 := Nat.le_refl T9.heap.size
  have f10_5 := CHr.safe R9 f8_7.lt f8_5
  have f10_6 := CHr.safe R9 f8_10.lt f8_6
  have f10_7 := f8_7.keep K9
  have f10_8 := f8_8.keep K9 nin0
  have f10_9 := f8_9.keep K9 nin0
  have f10_10 := f8_10.keep K9 nin0
  have f10_11 := f8_11.keep K9 nin0
  have f10_12 := CHr.safe R9 f8_14.lt f8_12
  have f10_13 := CHr.safe R9 f8_17.lt f8_13
  have f10_14 := f8_14.keep K9
  have f10_15 := f8_15.keep K9 nin0
  have f10_16 := f8_16.keep K9 nin0
  have f10_17 := f8_17.keep K9 nin0
  have f10_18 := A7.keep K9
  have f10_19 := C7.keep K9 nin0
  have f10_20 := V7.keep K9 nin0
  have f10_21 := K7.keep K9 nin0
  have N9 := Fr.app N5 N9q
  refine Wp.back (U' := (T9.setTop (mkF m 109 #[.val (.int p0), .val (.int p1), .val (.int p2), .val (.int p3), .val (.int p4), .val (.int 2), .val (.int 1), .val (.ref ta), .val (.ref b1_0), .val (.ref b5_0), .unset] [(.ref b9_0)]))) (fun t k => st9.trans k) ?_
  refine Wp.back (U' := (T9.setTop (mkF m 115 #[.val (.int p0), .val (.int p1), .val (.int p2), .val (.int p3), .val (.int p4), .val (.int 2), .val (.int 1), .val (.ref ta), .val (.ref b1_0), .val (.ref b5_0), .val (.ref b9_0)] [(.ref b1_0), (.ref b9_0)]))) (fun t k => XS.astore X9.here hx rfl (hb hby at_109) rfl rfl (l' := #[.val (.int p0), .val (.int p1), .val (.int p2), .val (.int p3), .val (.int p4), .val (.int 2), .val (.int 1), .val (.ref ta), .val (.ref b1_0), .val (.ref b5_0), .val (.ref b9_0)]) rfl (XS.aload X9.here hx rfl (hb hby at_111) rfl rfl (XS.aload X9.here hx rfl (hb hby at_113) rfl rfl k))) ?_
  obtain ⟨cq11, kq11, q11a, q11b, q11c⟩ := isOf hZ rfl o9_0
  obtain ⟨_, _, ⟨T11, L11, k11, n11⟩, -, X11, ⟨Lc11, hQ11, l11, y11, z11⟩, st11⟩ := X9.virtualBack hx (y := Y29) (z := Y29) hown (mvT hZ (ow hw 107 rfl)) (mvT hZ (ow hw 108 rfl)) (notFace_of_selects (args := #[]) (mvT hZ (ow hw 110 rfl))) (mvT hZ (ow hw 110 rfl)) (mvT hZ (ow hw 109 rfl)) (by decide) (backOf (W := 0) (rm_eqg l Z a0 hw [] b9_0 b1_0 b9_1 b1_1 k9_0 k1_0 cs (2 : Int32) [(.int (nar .byte ((nar .char c0)).toInt8.toInt32)), (.int (nar .byte ((nar .char c1)).toInt8.toInt32))] T9.heap n0 f10_0 o9_0 o9_1 o9_2 o9_3 f10_7 f10_8 f10_9 f10_10 f10_1 (Ne.symm ne_b1_0_b9_0) own_q2 hcs) hZ (ow hw 111 rfl) (ow hw 11 rfl) (by decide) (by decide)) q11a q11c (g := (mkF m 115 #[.val (.int p0), .val (.int p1), .val (.int p2), .val (.int p3), .val (.int p4), .val (.int 2), .val (.int 1), .val (.ref ta), .val (.ref b1_0), .val (.ref b5_0), .val (.ref b9_0)] [(.ref b1_0), (.ref b9_0)])) rfl (by rw [hml]; rfl) (Steps.refl _) (argsL := [(.ref b1_0)]) (rest := []) (lenOf pd_26 rfl) rfl (Nat.le_of_eq rfl) (hb hby at_115) (fun _ _ => ⟨rfl, rfl, (by decide : 13 + 0 ≤ _), (by decide : 170 + 0 ≤ _)⟩)
  dsimp only [Pt.U, Pt.locs, Pt.cells, Pt.slots] at X11 l11 y11 z11 st11 hQ11
  subst l11 y11 z11
  obtain ⟨rfl, N11q, K11⟩ := hQ11
  have f12_0 := Nat.le_trans f10_0 K11.1
  have f12_1 := Sta_keep0 f10_1 K11
  have f12_2 := Sta_keep0 f10_2 K11
  have f12_3 := CHv.keep K11 sf0 f10_3
  have f12_4 := Nat.le_trans f10_4 K11.1
  have f12_5 := Safe.keep K11 sf0 f10_3 f10_5
  have f12_6 := Safe.keep K11 sf0 f10_3 f10_6
  have f12_7 := f10_7.keep K11
  have f12_8 := f10_8.keep K11 nin0
  have f12_9 := f10_9.keep K11 nin0
  have f12_10 := f10_10.keep K11 nin0
  have f12_11 := f10_11.keep K11 nin0
  have f12_12 := Safe.keep K11 sf0 f10_3 f10_12
  have f12_13 := Safe.keep K11 sf0 f10_3 f10_13
  have f12_14 := f10_14.keep K11
  have f12_15 := f10_15.keep K11 nin0
  have f12_16 := f10_16.keep K11 nin0
  have f12_17 := f10_17.keep K11 nin0
  have f12_18 := f10_18.keep K11
  have f12_19 := f10_19.keep K11 nin0
  have f12_20 := f10_20.keep K11 nin0
  have f12_21 := f10_21.keep K11 nin0
  have f12_22 := o9_0.keep K11
  have f12_23 := o9_1.keep K11 nin0
  have f12_24 := o9_2.keep K11 nin0
  have f12_25 := o9_3.keep K11 nin0
  have N11 := Fr.app N9 N11q
  refine Wp.back (U' := (T11.setTop (mkF m 118 #[.val (.int p0), .val (.int p1), .val (.int p2), .val (.int p3), .val (.int p4), .val (.int 2), .val (.int 1), .val (.ref ta), .val (.ref b1_0), .val (.ref b5_0), .val (.ref b9_0)] [(.int 1)]))) (fun t k => st11.trans k) ?_
  obtain ⟨fs, hr, hrun, hended, hend⟩ := X11.leaveW hS9 f12_4 (v := (some (.int 1))) (fun h => by rw [hret] at h; cases h)
  refine Wp.done (retN X11 hx (t := .boolean) hret (by simp) (hb hby at_118) hr) hrun hended ⟨_, _, rfl, ?_, hend.1, hend.2.1, hend.2.2.1, hend.2.2.2.mono (by decide) (by decide)⟩
  show QL n0 _ T11.heap _
  exact ⟨rfl, N11⟩
set_option maxRecDepth 65536 in
set_option maxHeartbeats 40000000 in
theorem own_t3_1 {p : Program} {l : Launch} {e : Env} {s : State} {m : MethodId} {args : Array Value} {below : List Frame} {meth : Method} {c : Code} {T0 : State} {locs : List Loc} {Z : State} {a0 : Array Value} {hA : Heap} {n0 : Nat} {vm0 : Vm} {kk : Nat} (p0 p1 p2 p3 p4 : Int32) (ta : Addr) (kt : ClassId) (c0 c1 c2 c3 cs : Int32) (fm : Value)
    (hx : p.tables.exec = Jvm.exec) (hw : ∀ d ∈ tables_1, d.before a0 Z = true) (hby : c.code = code) (hml : c.maxLocals = 11) (hret : meth.sig.returnType = ret) (hlk : meth.locks = false) (hZ : Z.Warmed39 (s.setVm vm0).vm) (hown : (s.setVm vm0).vm.findClass "com/example/surebit/surebit/input/HexNumberDigitsPinLaw" = some m.cls) (X0 : Stand p l e room_1 (s.setVm vm0) m args below meth c T0 locs 1 5) (e0 : T0.heap = hA) (N0 : Fr n0 locs) (Z0 : n0 ≤ hA.size) (hS0 : s.Since vm0 kk) (hk0 : kk ≤ hA.size) (PC : Sta Z hA "java/lang/String" "COMPACT_STRINGS" "Z" (.int cs)) (PF : Sta Z hA "jdk/internal/util/Preconditions" "SIOOBE_FORMATTER" "Ljava/util/function/BiFunction;" fm) (TA : Arv Z hA ta kt .char (5 : Int32) [(.int c0), (.int c1), (.int c2), (.int c3), (.int 10)] (.int 0)) (hCH : CHv Z consts_1 vm0 hA) (gta : n0 ≤ ta) (hcs : ¬ cs = (0 : Int32)) (isr_fm : fm.isRef = true) (hc0 : own_H c0) (hc1 : own_H c1) (hc2 : own_H c2) (hc3 : own_H c3) :
    Wp p e below (fun o s₂ => ∃ v L, o = .returned v ∧ QL n0 v s₂.heap L ∧ ReturnedEndW s o s₂ L 32 2240) (T0.setTop (mkF m 60 #[.val (.int p0), .val (.int p1), .val (.int p2), .val (.int p3), .val (.int p4), .val (.int 3), .val (.int 1), .val (.ref ta), .unset, .unset, .unset] [])) := by
  have hEL : EW Z a0 consts_1 := own_EW hw
  have wS := own_wS hw
  refine Wp.back (U' := (T0.setTop (mkF m 64 #[.val (.int p0), .val (.int p1), .val (.int p2), .val (.int p3), .val (.int p4), .val (.int 3), .val (.int 1), .val (.ref ta), .unset, .unset, .unset] [(.int 3), (.ref ta)]))) (fun t k => XS.aload X0.here hx rfl (hb hby at_60) rfl rfl (XS.iload X0.here hx rfl (hb hby at_62) rfl k)) ?_
  obtain ⟨_, _, ⟨T1, L1, k1, n1⟩, -, X1, ⟨Lc1, hQ1, l1, y1, z1⟩, st1⟩ := Jvm.LawKit.callS X0 hx (y := Y27) hown (mvT hZ (ow hw 6 rfl)) (mvT hZ (ow hw 7 rfl)) (mvT hZ (ow hw 3 rfl)) (mvT hZ (ow hw 8 rfl)) (by decide) (backOf (W := 0) (rm_tk3 l Z a0 hw [] ta kt c0 c1 c2 c3 (10 : Int32) cs hA n0 Z0 TA PC (own_h1 hc0) (own_h1 hc1) (own_h1 hc2) hcs) hZ (ow hw 8 rfl) (ow hw 3 rfl) (by decide) (by decide)) (g := (mkF m 64 #[.val (.int p0), .val (.int p1), .val (.int p2), .val (.int p3), .val (.int p4), .val (.int 3), .val (.int 1), .val (.ref ta), .unset, .unset, .unset] [(.int 3), (.ref ta)])) rfl (by rw [hml]; rfl) (argsL := [(.ref ta), (.int 3)]) (rest := []) (lenOf pd_24 rfl) rfl (Nat.le_of_eq rfl) (hb hby at_64) (fun _ _ => ⟨rfl, e0, (by decide : 1 + 3 ≤ _), (by decide : 5 + 72 ≤ _)⟩)
  dsimp only [Pt.U, Pt.locs, Pt.cells, Pt.slots] at X1 l1 y1 z1 st1 hQ1
  subst l1 y1 z1
  obtain ⟨b1_0, b1_1, k1_0, rfl, N1q, K1, sf1_0, sf1_1, o1_0, o1_1, o1_2, o1_3⟩ := hQ1
  have ne_ta_b1_0 : ta ≠ b1_0 := Nat.ne_of_lt (Nat.lt_of_lt_of_le TA.lt sf1_0)
  have g_b1_0 : n0 ≤ b1_0 := Nat.le_trans Z0 sf1_0
  have ne_ta_b1_1 : ta ≠ b1_1 := Nat.ne_of_lt (Nat.lt_of_lt_of_le TA.lt sf1_1)
  have g_b1_1 : n0 ≤ b1_1 := Nat.le_trans Z0 sf1_1
  have sf_b1_0 : Safe Z consts_1 vm0 hA b1_0 := Safe.new sf1_0
  have sf_b1_1 : Safe Z consts_1 vm0 hA b1_1 := Safe.new sf1_1
  have f2_0 := Nat.le_trans Z0 K1.1
  have f2_1 := Sta_keep0 PC K1
  have f2_2 := Sta_keep0 PF K1
  have f2_3 := TA.keep K1 nin0
  have f2_4 := CHv.keep K1 sf0 hCH
  have f2_5 := Nat.le_trans hk0 K1.1
  have f2_6 := Safe.keep K1 sf0 hCH sf_b1_0
  have f2_7 := Safe.keep K1 sf0 hCH sf_b1_1
  have N1 := Fr.app N0 N1q
  refine Wp.back (U' := (T1.setTop (mkF m 67 #[.val (.int p0), .val (.int p1), .val (.int p2), .val (.int p3), .val (.int p4), .val (.int 3), .val (.int 1), .val (.ref ta), .unset, .unset, .unset] [(.ref b1_0)]))) st1 ?_
  refine Wp.back (U' := (T1.setTop (mkF m 80 #[.val (.int p0), .val (.int p1), .val (.int p2), .val (.int p3), .val (.int p4), .val (.int 3), .val (.int 1), .val (.ref ta), .val (.ref b1_0), .unset, .unset] [(.int 10), (.int 3), (.ref ta)]))) (fun t k => XS.astore X1.here hx rfl (hb hby at_67) rfl rfl (l' := #[.val (.int p0), .val (.int p1), .val (.int p2), .val (.int p3), .val (.int p4), .val (.int 3), .val (.int 1), .val (.ref ta), .val (.ref b1_0), .unset, .unset]) rfl (XS.iload X1.here hx rfl (hb hby at_69) rfl (XS.ifNo X1.here hx rfl (hb hby at_71) rfl ((if0 _ _).trans (feq (by decide)).1) (XS.aload X1.here hx rfl (hb hby at_74) rfl rfl (XS.iload X1.here hx rfl (hb hby at_76) rfl (XT.bipushV X1.here hx rfl 10 (hb hby at_78) (by decide) k)))))) ?_
  have vq3 := f2_3
  obtain ⟨cl3, Ar3, qa3, qs3, qn3, qh3, qg3⟩ := vq3
  have hin3 : ¬ ((3 : Int32) < 0 ∨ cl3.slots.size ≤ ((3 : Int32)).toNatClampNeg) := inb_of qs3 ⟨by decide, by decide⟩
  obtain ⟨T3, h3, X3, e3, W3, st3⟩ := stC X1 hx hZ rfl Ar3 (j := (3 : Int32)) hin3 (g := (mkF m 80 #[.val (.int p0), .val (.int p1), .val (.int p2), .val (.int p3), .val (.int p4), .val (.int 3), .val (.int 1), .val (.ref ta), .val (.ref b1_0), .unset, .unset] [(.int 10), (.int 3), (.ref ta)])) rfl rfl (hb hby at_80)
  have V3 : Arv Z h3 ta kt .char (5 : Int32) [(.int c0), (.int c1), (.int c2), (.int 10), (.int 10)] (.int 0) := Arv.set Ar3 qa3 qs3 qn3 qh3 qg3 (fits_nar_char (10 : Int32)) W3 3 rfl (Nat.le_of_ble_eq_true rfl)
  have f4_0 := Nat.le_trans f2_0 (Keep.of_wr W3).1
  have f4_1 := f2_1.wr W3
  have f4_2 := f2_2.wr W3
  have f4_3 := CHv.wr W3 (Safe.arv hZ.alike f2_3 (by decide)) f2_4
  have f4_4 := Nat.le_trans f2_5 (Keep.of_wr W3).1
  have f4_5 := Safe.wr W3 (Safe.arv hZ.alike f2_3 (by decide)) f2_4 f2_6
  have f4_6 := Safe.wr W3 (Safe.arv hZ.alike f2_3 (by decide)) f2_4 f2_7
  have f4_7 := o1_0.wr W3
  have f4_8 := o1_1.other W3 (Or.inl (Ne.symm ne_ta_b1_0))
  have f4_9 := o1_2.other W3 (Or.inl (Ne.symm ne_ta_b1_0))
  have f4_10 := o1_3.other W3 (Ne.symm ne_ta_b1_1)
  have N3 := Fr.snoc X3 N1 gta
  refine Wp.back (U' := (T3.setTop (mkF m 81 #[.val (.int p0), .val (.int p1), .val (.int p2), .val (.int p3), .val (.int p4), .val (.int 3), .val (.int 1), .val (.ref ta), .val (.ref b1_0), .unset, .unset] []))) st3 ?_
  refine Wp.back (U' := (T3.setTop (mkF m 97 #[.val (.int p0), .val (.int p1), .val (.int p2), .val (.int p3), .val (.int p4), .val (.int 3), .val (.int 1), .val (.ref ta), .val (.ref b1_0), .unset, .unset] [(.int 4), (.ref ta)]))) (fun t k => XS.aload X3.here hx rfl (hb hby at_81) rfl rfl (XS.iload X3.here hx rfl (hb hby at_83) rfl (XS.ifNo X3.here hx rfl (hb hby at_85) rfl ((if0 _ _).trans (feq (by decide)).1) (XS.iload X3.here hx rfl (hb hby at_88) rfl (XT.iconstV X3.here hx rfl 1 (hb hby at_90) (by decide) (XS.iadd X3.here hx rfl (hb hby at_91) rfl (XS.goto X3.here hx rfl (pc0 := 92) (pc' := 97) rfl (hb hby at_92) (by decide) (by decide) k))))))) ?_
  obtain ⟨_, _, ⟨T5, L5, k5, n5⟩, -, X5, ⟨Lc5, hQ5, l5, y5, z5⟩, st5⟩ := Jvm.LawKit.callS X3 hx (y := Y27) hown (mvT hZ (ow hw 6 rfl)) (mvT hZ (ow hw 7 rfl)) (mvT hZ (ow hw 3 rfl)) (mvT hZ (ow hw 8 rfl)) (by decide) (backOf (W := 0) (rm_tk4 l Z a0 hw [] ta kt c0 c1 c2 (10 : Int32) (10 : Int32) cs h3 n0 f4_0 V3 f4_1 (own_h1 hc0) (own_h1 hc1) (own_h1 hc2) (by decide) hcs) hZ (ow hw 8 rfl) (ow hw 3 rfl) (by decide) (by decide)) (g := (mkF m 97 #[.val (.int p0), .val (.int p1), .val (.int p2), .val (.int p3), .val (.int p4), .val (.int 3), .val (.int 1), .val (.ref ta), .val (.ref b1_0), .unset, .unset] [(.int 4), (.ref ta)])) rfl (by rw [hml]; rfl) (argsL := [(.ref ta), (.int 4)]) (rest := []) (lenOf pd_24 rfl) rfl (Nat.le_of_eq rfl) (hb hby at_97) (fun _ _ => ⟨rfl, e3, (by decide : 4 + 3 ≤ _), (by decide : 77 + 73 ≤ _)⟩)
  dsimp only [Pt.U, Pt.locs, Pt.cells, Pt.slots] at X5 l5 y5 z5 st5 hQ5
  subst l5 y5 z5
  obtain ⟨b5_0, b5_1, k5_0, rfl, N5q, K5, sf5_0, sf5_1, o5_0, o5_1, o5_2, o5_3⟩ := hQ5
  have ne_ta_b5_0 : ta ≠ b5_0 := Nat.ne_of_lt (Nat.lt_of_lt_of_le V3.lt sf5_0)
  have ne_b1_0_b5_0 : b1_0 ≠ b5_0 := Nat.ne_of_lt (Nat.lt_of_lt_of_le f4_7.lt sf5_0)
  have ne_b1_1_b5_0 : b1_1 ≠ b5_0 := Nat.ne_of_lt (Nat.lt_of_lt_of_le f4_10.lt sf5_0)
  have g_b5_0 : n0 ≤ b5_0 := Nat.le_trans f4_0 sf5_0
  have ne_ta_b5_1 : ta ≠ b5_1 := Nat.ne_of_lt (Nat.lt_of_lt_of_le V3.lt sf5_1)
  have ne_b1_0_b5_1 : b1_0 ≠ b5_1 := Nat.ne_of_lt (Nat.lt_of_lt_of_le f4_7.lt sf5_1)
  have ne_b1_1_b5_1 : b1_1 ≠ b5_1 := Nat.ne_of_lt (Nat.lt_of_lt_of_le f4_10.lt sf5_1)
  have g_b5_1 : n0 ≤ b5_1 := Nat.le_trans f4_0 sf5_1
  have sf_b5_0 : Safe Z consts_1 vm0 h3 b5_0 := Safe.new sf5_0
  have sf_b5_1 : Safe Z consts_1 vm0 h3 b5_1 := Safe.new sf5_1
  have f6_0 := Nat.le_trans f4_0 K5.1
  have f6_1 := Sta_keep0 f4_1 K5
  have f6_2 := Sta_keep0 f4_2 K5
  have f6_3 := CHv.keep K5 sf0 f4_3
  have f6_4 := Nat.le_trans f4_4 K5.1
  have f6_5 := Safe.keep K5 sf0 f4_3 f4_5
  have f6_6 := Safe.keep K5 sf0 f4_3 f4_6
  have f6_7 := f4_7.keep K5
  have f6_8 := f4_8.keep K5 nin0
  have f6_9 := f4_9.keep K5 nin0
  have f6_10 := f4_10.keep K5 nin0
  have f6_11 := V3.keep K5 nin0
  have f6_12 := Safe.keep K5 sf0 f4_3 sf_b5_0
  have f6_13 := Safe.keep K5 sf0 f4_3 sf_b5_1
  have N5 := Fr.app N3 N5q
  refine Wp.back (U' := (T5.setTop (mkF m 100 #[.val (.int p0), .val (.int p1), .val (.int p2), .val (.int p3), .val (.int p4), .val (.int 3), .val (.int 1), .val (.ref ta), .val (.ref b1_0), .unset, .unset] [(.ref b5_0)]))) st5 ?_
  refine Wp.back (U' := (T5.setTop (mkF m 104 #[.val (.int p0), .val (.int p1), .val (.int p2), .val (.int p3), .val (.int p4), .val (.int 3), .val (.int 1), .val (.ref ta), .val (.ref b1_0), .val (.ref b5_0), .unset] [(.ref b5_0)]))) (fun t k => XS.astore X5.here hx rfl (hb hby at_100) rfl rfl (l' := #[.val (.int p0), .val (.int p1), .val (.int p2), .val (.int p3), .val (.int p4), .val (.int 3), .val (.int 1), .val (.ref ta), .val (.ref b1_0), .val (.ref b5_0), .unset]) rfl (XS.aload X5.here hx rfl (hb hby at_102) rfl rfl k)) ?_
  obtain ⟨a7, T7, h7, k7, b7, kc7, X7, e7, E7, hS7, hk7, hZ, hown, A7, C7, V7, K7, la7, lb7, R7, L7, Sf7, st7⟩ := ldcCH X5 hx hZ hown (ow hw 38 rfl) wS rfl hS0 f6_4 hEL (List.mem_of_getElem? (i := 1) rfl) f6_3 (vs := [(.int 115)]) (z := (1 : Int32)) ⟨by decide, rfl⟩ (by decide) rfl (g := (mkF m 104 #[.val (.int p0), .val (.int p1), .val (.int p2), .val (.int p3), .val (.int p4), .val (.int 3), .val (.int 1), .val (.ref ta), .val (.ref b1_0), .val (.ref b5_0), .unset] [(.ref b5_0)])) rfl (hb hby at_104) (n := 4) (by decide) (by decide) (by decide) (by decide)
  have f8_0 := Nat.le_trans f6_0 E7.1
  have f8_1 := f6_1.ext E7
  have f8_2 := f6_2.ext E7
  have f8_3 := R7.1
  have f8_4 := hk7
  have f8_5 := CHr.safe R7 f6_7.lt f6_5
  have f8_6 := CHr.safe R7 f6_10.lt f6_6
  have f8_7 := f6_7.ext E7
  have f8_8 := f6_8.ext E7
  have f8_9 := f6_9.ext E7
  have f8_10 := f6_10.ext E7
  have f8_11 := f6_11.ext E7
  have f8_12 := CHr.safe R7 o5_0.lt f6_12
  have f8_13 := CHr.safe R7 o5_3.lt f6_13
  have f8_14 := o5_0.ext E7
  have f8_15 := o5_1.ext E7
  have f8_16 := o5_2.ext E7
  have f8_17 := o5_3.ext E7
  have ne_b1_0_a7 : b1_0 ≠ a7 := (Sf7 _ f8_5).1
  have ne_b1_0_b7 : b1_0 ≠ b7 := (Sf7 _ f8_5).2
  have ne_b1_1_a7 : b1_1 ≠ a7 := (Sf7 _ f8_6).1
  have ne_b1_1_b7 : b1_1 ≠ b7 := (Sf7 _ f8_6).2
  have ne_b5_0_a7 : b5_0 ≠ a7 := (Sf7 _ f8_12).1
  have ne_b5_0_b7 : b5_0 ≠ b7 := (Sf7 _ f8_12).2
  have ne_b5_1_a7 : b5_1 ≠ a7 := (Sf7 _ f8_13).1
  have ne_b5_1_b7 : b5_1 ≠ b7 := (Sf7 _ f8_13).2
  refine Wp.back (U' := (T7.setTop (mkF m 106 #[.val (.int p0), .val (.int p1), .val (.int p2), .val (.int p3), .val (.int p4), .val (.int 3), .val (.int 1), .val (.ref ta), .val (.ref b1_0), .val (.ref b5_0), .unset] [(.ref a7), (.ref b5_0)]))) st7 ?_
  obtain ⟨_, _, ⟨T9, L9, k9, n9⟩, -, X9, hS9, gr9, ⟨Lc9, hQ9, l9, y9, z9, R9⟩, st9⟩ := callSS X7 hx (y := Y21) hown (mvT hZ (ow hw 41 rfl)) (mvT hZ (ow hw 42 rfl)) (mvT hZ (ow hw 43 rfl)) (mvT hZ (ow hw 44 rfl)) (by decide) (backOfSH (W := 0) (rm_dge4 l Z a0 hw [] b5_0 a7 b5_1 cs fm k5_0 (nar .byte ((nar .char c0)).toInt8.toInt32) (nar .byte ((nar .char c1)).toInt8.toInt32) (nar .byte ((nar .char c2)).toInt8.toInt32) (nar .byte ((nar .char (10 : Int32))).toInt8.toInt32) h7 n0 f8_0 f8_14 f8_15 f8_16 f8_17 f8_1 f8_2 isr_fm (own_h2 hc0) (own_h2 hc1) (own_h2 hc2) (by decide) hcs) hZ (ow hw 44 rfl) (ow hw 43 rfl) (by decide) (by decide) hEL f8_3) (g := (mkF m 106 #[.val (.int p0), .val (.int p1), .val (.int p2), .val (.int p3), .val (.int p4), .val (.int 3), .val (.int 1), .val (.ref ta), .val (.ref b1_0), .val (.ref b5_0), .unset] [(.ref a7), (.ref b5_0)])) rfl (by rw [hml]; rfl) (argsL := [(.ref b5_0), (.ref a7)]) (rest := []) (lenOf pd_25 rfl) rfl (Nat.le_of_eq rfl) (hb hby at_106) (fun _ _ => ⟨rfl, e7, (by decide : 9 + 4 ≤ _), (by decide : 158 + 15 ≤ _)⟩)
  dsimp only [Pt.U, Pt.locs, Pt.cells, Pt.slots] at X9 l9 y9 z9 st9 hQ9 hS9 gr9 R9
  subst l9 y9 z9
  obtain ⟨X9, hS9, hZ, hown⟩ := rebS hS7 (by rw [e7]; exact f8_4) X9 hS9 gr9 hZ hown
  obtain ⟨b9_0, b9_1, k9_0, rfl, N9q, K9, sf9_0, sf9_1, o9_0, o9_1, o9_2, o9_3⟩ := hQ9
  have ne_ta_b9_0 : ta ≠ b9_0 := Nat.ne_of_lt (Nat.lt_of_lt_of_le f8_11.lt sf9_0)
  have ne_b1_0_b9_0 : b1_0 ≠ b9_0 := Nat.ne_of_lt (Nat.lt_of_lt_of_le f8_7.lt sf9_0)
  have ne_b1_1_b9_0 : b1_1 ≠ b9_0 := Nat.ne_of_lt (Nat.lt_of_lt_of_le f8_10.lt sf9_0)
  have ne_b5_0_b9_0 : b5_0 ≠ b9_0 := Nat.ne_of_lt (Nat.lt_of_lt_of_le f8_14.lt sf9_0)
  have ne_b5_1_b9_0 : b5_1 ≠ b9_0 := Nat.ne_of_lt (Nat.lt_of_lt_of_le f8_17.lt sf9_0)
  have ne_a7_b9_0 : a7 ≠ b9_0 := Nat.ne_of_lt (Nat.lt_of_lt_of_le A7.lt sf9_0)
  have ne_b7_b9_0 : b7 ≠ b9_0 := Nat.ne_of_lt (Nat.lt_of_lt_of_le K7.lt sf9_0)
  have g_b9_0 : n0 ≤ b9_0 := Nat.le_trans f8_0 sf9_0
  have ne_ta_b9_1 : ta ≠ b9_1 := Nat.ne_of_lt (Nat.lt_of_lt_of_le f8_11.lt sf9_1)
  have ne_b1_0_b9_1 : b1_0 ≠ b9_1 := Nat.ne_of_lt (Nat.lt_of_lt_of_le f8_7.lt sf9_1)
  have ne_b1_1_b9_1 : b1_1 ≠ b9_1 := Nat.ne_of_lt (Nat.lt_of_lt_of_le f8_10.lt sf9_1)
  have ne_b5_0_b9_1 : b5_0 ≠ b9_1 := Nat.ne_of_lt (Nat.lt_of_lt_of_le f8_14.lt sf9_1)
  have ne_b5_1_b9_1 : b5_1 ≠ b9_1 := Nat.ne_of_lt (Nat.lt_of_lt_of_le f8_17.lt sf9_1)
  have ne_a7_b9_1 : a7 ≠ b9_1 := Nat.ne_of_lt (Nat.lt_of_lt_of_le A7.lt sf9_1)
  have ne_b7_b9_1 : b7 ≠ b9_1 := Nat.ne_of_lt (Nat.lt_of_lt_of_le K7.lt sf9_1)
  have g_b9_1 : n0 ≤ b9_1 := Nat.le_trans f8_0 sf9_1
  have f10_0 := Nat.le_trans f8_0 K9.1
  have f10_1 := Sta_keep0 f8_1 K9
  have f10_2 := Sta_keep0 f8_2 K9
  have f10_3 := R9.1
  have f10_4 := Nat.le_refl T9.heap.size
  have f10_5 := CHr.safe R9 f8_7.lt f8_5
  have f10_6 := CHr.safe R9 f8_10.lt f8_6
  have f10_7 := f8_7.keep K9
  have f10_8 := f8_8.keep K9 nin0
  have f10_9 := f8_9.keep K9 nin0
  have f10_10 := f8_10.keep K9 nin0
  have f10_11 := f8_11.keep K9 nin0
  have f10_12 := CHr.safe R9 f8_14.lt f8_12
  have f10_13 := CHr.safe R9 f8_17.lt f8_13
  have f10_14 := f8_14.keep K9
  have f10_15 := f8_15.keep K9 nin0
  have f10_16 := f8_16.keep K9 nin0
  have f10_17 := f8_17.keep K9 nin0
  have f10_18 := A7.keep K9
  have f10_19 := C7.keep K9 nin0
  have f10_20 := V7.keep K9 nin0
  have f10_21 := K7.keep K9 nin0
  have N9 := Fr.app N5 N9q
  refine Wp.back (U' := (T9.setTop (mkF m 109 #[.val (.int p0), .val (.int p1), .val (.int p2), .val (.int p3), .val (.int p4), .val (.int 3), .val (.int 1), .val (.ref ta), .val (.ref b1_0), .val (.ref b5_0), .unset] [(.ref b9_0)]))) (fun t k => st9.trans k) ?_
  refine Wp.back (U' := (T9.setTop (mkF m 115 #[.val (.int p0), .val (.int p1), .val (.int p2), .val (.int p3), .val (.int p4), .val (.int 3), .val (.int 1), .val (.ref ta), .val (.ref b1_0), .val (.ref b5_0), .val (.ref b9_0)] [(.ref b1_0), (.ref b9_0)]))) (fun t k => XS.astore X9.here hx rfl (hb hby at_109) rfl rfl (l' := #[.val (.int p0), .val (.int p1), .val (.int p2), .val (.int p3), .val (.int p4), .val (.int 3), .val (.int 1), .val (.ref ta), .val (.ref b1_0), .val (.ref b5_0), .val (.ref b9_0)]) rfl (XS.aload X9.here hx rfl (hb hby at_111) rfl rfl (XS.aload X9.here hx rfl (hb hby at_113) rfl rfl k))) ?_
  obtain ⟨cq11, kq11, q11a, q11b, q11c⟩ := isOf hZ rfl o9_0
  obtain ⟨_, _, ⟨T11, L11, k11, n11⟩, -, X11, ⟨Lc11, hQ11, l11, y11, z11⟩, st11⟩ := X9.virtualBack hx (y := Y29) (z := Y29) hown (mvT hZ (ow hw 107 rfl)) (mvT hZ (ow hw 108 rfl)) (notFace_of_selects (args := #[]) (mvT hZ (ow hw 110 rfl))) (mvT hZ (ow hw 110 rfl)) (mvT hZ (ow hw 109 rfl)) (by decide) (backOf (W := 0) (rm_eqg l Z a0 hw [] b9_0 b1_0 b9_1 b1_1 k9_0 k1_0 cs (3 : Int32) [(.int (nar .byte ((nar .char c0)).toInt8.toInt32)), (.int (nar .byte ((nar .char c1)).toInt8.toInt32)), (.int (nar .byte ((nar .char c2)).toInt8.toInt32))] T9.heap n0 f10_0 o9_0 o9_1 o9_2 o9_3 f10_7 f10_8 f10_9 f10_10 f10_1 (Ne.symm ne_b1_0_b9_0) own_q3 hcs) hZ (ow hw 111 rfl) (ow hw 11 rfl) (by decide) (by decide)) q11a q11c (g := (mkF m 115 #[.val (.int p0), .val (.int p1), .val (.int p2), .val (.int p3), .val (.int p4), .val (.int 3), .val (.int 1), .val (.ref ta), .val (.ref b1_0), .val (.ref b5_0), .val (.ref b9_0)] [(.ref b1_0), (.ref b9_0)])) rfl (by rw [hml]; rfl) (Steps.refl _) (argsL := [(.ref b1_0)]) (rest := []) (lenOf pd_26 rfl) rfl (Nat.le_of_eq rfl) (hb hby at_115) (fun _ _ => ⟨rfl, rfl, (by decide : 13 + 0 ≤ _), (by decide : 173 + 0 ≤ _)⟩)
  dsimp only [Pt.U, Pt.locs, Pt.cells, Pt.slots] at X11 l11 y11 z11 st11 hQ11
  subst l11 y11 z11
  obtain ⟨rfl, N11q, K11⟩ := hQ11
  have f12_0 := Nat.le_trans f10_0 K11.1
  have f12_1 := Sta_keep0 f10_1 K11
  have f12_2 := Sta_keep0 f10_2 K11
  have f12_3 := CHv.keep K11 sf0 f10_3
  have f12_4 := Nat.le_trans f10_4 K11.1
  have f12_5 := Safe.keep K11 sf0 f10_3 f10_5
  have f12_6 := Safe.keep K11 sf0 f10_3 f10_6
  have f12_7 := f10_7.keep K11
  have f12_8 := f10_8.keep K11 nin0
  have f12_9 := f10_9.keep K11 nin0
  have f12_10 := f10_10.keep K11 nin0
  have f12_11 := f10_11.keep K11 nin0
  have f12_12 := Safe.keep K11 sf0 f10_3 f10_12
  have f12_13 := Safe.keep K11 sf0 f10_3 f10_13
  have f12_14 := f10_14.keep K11
  have f12_15 := f10_15.keep K11 nin0
  have f12_16 := f10_16.keep K11 nin0
  have f12_17 := f10_17.keep K11 nin0
  have f12_18 := f10_18.keep K11
  have f12_19 := f10_19.keep K11 nin0
  have f12_20 := f10_20.keep K11 nin0
  have f12_21 := f10_21.keep K11 nin0
  have f12_22 := o9_0.keep K11
  have f12_23 := o9_1.keep K11 nin0
  have f12_24 := o9_2.keep K11 nin0
  have f12_25 := o9_3.keep K11 nin0
  have N11 := Fr.app N9 N11q
  refine Wp.back (U' := (T11.setTop (mkF m 118 #[.val (.int p0), .val (.int p1), .val (.int p2), .val (.int p3), .val (.int p4), .val (.int 3), .val (.int 1), .val (.ref ta), .val (.ref b1_0), .val (.ref b5_0), .val (.ref b9_0)] [(.int 1)]))) (fun t k => st11.trans k) ?_
  obtain ⟨fs, hr, hrun, hended, hend⟩ := X11.leaveW hS9 f12_4 (v := (some (.int 1))) (fun h => by rw [hret] at h; cases h)
  refine Wp.done (retN X11 hx (t := .boolean) hret (by simp) (hb hby at_118) hr) hrun hended ⟨_, _, rfl, ?_, hend.1, hend.2.1, hend.2.2.1, hend.2.2.2.mono (by decide) (by decide)⟩
  show QL n0 _ T11.heap _
  exact ⟨rfl, N11⟩
set_option maxRecDepth 65536 in
set_option maxHeartbeats 40000000 in
theorem own_t4_1 {p : Program} {l : Launch} {e : Env} {s : State} {m : MethodId} {args : Array Value} {below : List Frame} {meth : Method} {c : Code} {T0 : State} {locs : List Loc} {Z : State} {a0 : Array Value} {hA : Heap} {n0 : Nat} {vm0 : Vm} {kk : Nat} (p0 p1 p2 p3 p4 : Int32) (ta : Addr) (kt : ClassId) (c0 c1 c2 c3 cs : Int32) (fm : Value)
    (hx : p.tables.exec = Jvm.exec) (hw : ∀ d ∈ tables_1, d.before a0 Z = true) (hby : c.code = code) (hml : c.maxLocals = 11) (hret : meth.sig.returnType = ret) (hlk : meth.locks = false) (hZ : Z.Warmed39 (s.setVm vm0).vm) (hown : (s.setVm vm0).vm.findClass "com/example/surebit/surebit/input/HexNumberDigitsPinLaw" = some m.cls) (X0 : Stand p l e room_1 (s.setVm vm0) m args below meth c T0 locs 1 5) (e0 : T0.heap = hA) (N0 : Fr n0 locs) (Z0 : n0 ≤ hA.size) (hS0 : s.Since vm0 kk) (hk0 : kk ≤ hA.size) (PC : Sta Z hA "java/lang/String" "COMPACT_STRINGS" "Z" (.int cs)) (PF : Sta Z hA "jdk/internal/util/Preconditions" "SIOOBE_FORMATTER" "Ljava/util/function/BiFunction;" fm) (TA : Arv Z hA ta kt .char (5 : Int32) [(.int c0), (.int c1), (.int c2), (.int c3), (.int 10)] (.int 0)) (hCH : CHv Z consts_1 vm0 hA) (gta : n0 ≤ ta) (hcs : ¬ cs = (0 : Int32)) (isr_fm : fm.isRef = true) (hc0 : own_H c0) (hc1 : own_H c1) (hc2 : own_H c2) (hc3 : own_H c3) :
    Wp p e below (fun o s₂ => ∃ v L, o = .returned v ∧ QL n0 v s₂.heap L ∧ ReturnedEndW s o s₂ L 32 2240) (T0.setTop (mkF m 60 #[.val (.int p0), .val (.int p1), .val (.int p2), .val (.int p3), .val (.int p4), .val (.int 4), .val (.int 1), .val (.ref ta), .unset, .unset, .unset] [])) := by
  have hEL : EW Z a0 consts_1 := own_EW hw
  have wS := own_wS hw
  refine Wp.back (U' := (T0.setTop (mkF m 64 #[.val (.int p0), .val (.int p1), .val (.int p2), .val (.int p3), .val (.int p4), .val (.int 4), .val (.int 1), .val (.ref ta), .unset, .unset, .unset] [(.int 4), (.ref ta)]))) (fun t k => XS.aload X0.here hx rfl (hb hby at_60) rfl rfl (XS.iload X0.here hx rfl (hb hby at_62) rfl k)) ?_
  obtain ⟨_, _, ⟨T1, L1, k1, n1⟩, -, X1, ⟨Lc1, hQ1, l1, y1, z1⟩, st1⟩ := Jvm.LawKit.callS X0 hx (y := Y27) hown (mvT hZ (ow hw 6 rfl)) (mvT hZ (ow hw 7 rfl)) (mvT hZ (ow hw 3 rfl)) (mvT hZ (ow hw 8 rfl)) (by decide) (backOf (W := 0) (rm_tk4 l Z a0 hw [] ta kt c0 c1 c2 c3 (10 : Int32) cs hA n0 Z0 TA PC (own_h1 hc0) (own_h1 hc1) (own_h1 hc2) (own_h1 hc3) hcs) hZ (ow hw 8 rfl) (ow hw 3 rfl) (by decide) (by decide)) (g := (mkF m 64 #[.val (.int p0), .val (.int p1), .val (.int p2), .val (.int p3), .val (.int p4), .val (.int 4), .val (.int 1), .val (.ref ta), .unset, .unset, .unset] [(.int 4), (.ref ta)])) rfl (by rw [hml]; rfl) (argsL := [(.ref ta), (.int 4)]) (rest := []) (lenOf pd_24 rfl) rfl (Nat.le_of_eq rfl) (hb hby at_64) (fun _ _ => ⟨rfl, e0, (by decide : 1 + 3 ≤ _), (by decide : 5 + 73 ≤ _)⟩)
  dsimp only [Pt.U, Pt.locs, Pt.cells, Pt.slots] at X1 l1 y1 z1 st1 hQ1
  subst l1 y1 z1
  obtain ⟨b1_0, b1_1, k1_0, rfl, N1q, K1, sf1_0, sf1_1, o1_0, o1_1, o1_2, o1_3⟩ := hQ1
  have ne_ta_b1_0 : ta ≠ b1_0 := Nat.ne_of_lt (Nat.lt_of_lt_of_le TA.lt sf1_0)
  have g_b1_0 : n0 ≤ b1_0 := Nat.le_trans Z0 sf1_0
  have ne_ta_b1_1 : ta ≠ b1_1 := Nat.ne_of_lt (Nat.lt_of_lt_of_le TA.lt sf1_1)
  have g_b1_1 : n0 ≤ b1_1 := Nat.le_trans Z0 sf1_1
  have sf_b1_0 : Safe Z consts_1 vm0 hA b1_0 := Safe.new sf1_0
  have sf_b1_1 : Safe Z consts_1 vm0 hA b1_1 := Safe.new sf1_1
  have f2_0 := Nat.le_trans Z0 K1.1
  have f2_1 := Sta_keep0 PC K1
  have f2_2 := Sta_keep0 PF K1
  have f2_3 := TA.keep K1 nin0
  have f2_4 := CHv.keep K1 sf0 hCH
  have f2_5 := Nat.le_trans hk0 K1.1
  have f2_6 := Safe.keep K1 sf0 hCH sf_b1_0
  have f2_7 := Safe.keep K1 sf0 hCH sf_b1_1
  have N1 := Fr.app N0 N1q
  refine Wp.back (U' := (T1.setTop (mkF m 67 #[.val (.int p0), .val (.int p1), .val (.int p2), .val (.int p3), .val (.int p4), .val (.int 4), .val (.int 1), .val (.ref ta), .unset, .unset, .unset] [(.ref b1_0)]))) st1 ?_
  refine Wp.back (U' := (T1.setTop (mkF m 80 #[.val (.int p0), .val (.int p1), .val (.int p2), .val (.int p3), .val (.int p4), .val (.int 4), .val (.int 1), .val (.ref ta), .val (.ref b1_0), .unset, .unset] [(.int 10), (.int 4), (.ref ta)]))) (fun t k => XS.astore X1.here hx rfl (hb hby at_67) rfl rfl (l' := #[.val (.int p0), .val (.int p1), .val (.int p2), .val (.int p3), .val (.int p4), .val (.int 4), .val (.int 1), .val (.ref ta), .val (.ref b1_0), .unset, .unset]) rfl (XS.iload X1.here hx rfl (hb hby at_69) rfl (XS.ifNo X1.here hx rfl (hb hby at_71) rfl ((if0 _ _).trans (feq (by decide)).1) (XS.aload X1.here hx rfl (hb hby at_74) rfl rfl (XS.iload X1.here hx rfl (hb hby at_76) rfl (XT.bipushV X1.here hx rfl 10 (hb hby at_78) (by decide) k)))))) ?_
  have vq3 := f2_3
  obtain ⟨cl3, Ar3, qa3, qs3, qn3, qh3, qg3⟩ := vq3
  have hin3 : ¬ ((4 : Int32) < 0 ∨ cl3.slots.size ≤ ((4 : Int32)).toNatClampNeg) := inb_of qs3 ⟨by decide, by decide⟩
  obtain ⟨T3, h3, X3, e3, W3, st3⟩ := stC X1 hx hZ rfl Ar3 (j := (4 : Int32)) hin3 (g := (mkF m 80 #[.val (.int p0), .val (.int p1), .val (.int p2), .val (.int p3), .val (.int p4), .val (.int 4), .val (.int 1), .val (.ref ta), .val (.ref b1_0), .unset, .unset] [(.int 10), (.int 4), (.ref ta)])) rfl rfl (hb hby at_80)
  have V3 : Arv Z h3 ta kt .char (5 : Int32) [(.int c0), (.int c1), (.int c2), (.int c3), (.int 10)] (.int 0) := Arv.set Ar3 qa3 qs3 qn3 qh3 qg3 (fits_nar_char (10 : Int32)) W3 4 rfl (Nat.le_of_ble_eq_true rfl)
  have f4_0 := Nat.le_trans f2_0 (Keep.of_wr W3).1
  have f4_1 := f2_1.wr W3
  have f4_2 := f2_2.wr W3
  have f4_3 := CHv.wr W3 (Safe.arv hZ.alike f2_3 (by decide)) f2_4
  have f4_4 := Nat.le_trans f2_5 (Keep.of_wr W3).1
  have f4_5 := Safe.wr W3 (Safe.arv hZ.alike f2_3 (by decide)) f2_4 f2_6
  have f4_6 := Safe.wr W3 (Safe.arv hZ.alike f2_3 (by decide)) f2_4 f2_7
  have f4_7 := o1_0.wr W3
  have f4_8 := o1_1.other W3 (Or.inl (Ne.symm ne_ta_b1_0))
  have f4_9 := o1_2.other W3 (Or.inl (Ne.symm ne_ta_b1_0))
  have f4_10 := o1_3.other W3 (Ne.symm ne_ta_b1_1)
  have N3 := Fr.snoc X3 N1 gta
  refine Wp.back (U' := (T3.setTop (mkF m 81 #[.val (.int p0), .val (.int p1), .val (.int p2), .val (.int p3), .val (.int p4), .val (.int 4), .val (.int 1), .val (.ref ta), .val (.ref b1_0), .unset, .unset] []))) st3 ?_
  refine Wp.back (U' := (T3.setTop (mkF m 97 #[.val (.int p0), .val (.int p1), .val (.int p2), .val (.int p3), .val (.int p4), .val (.int 4), .val (.int 1), .val (.ref ta), .val (.ref b1_0), .unset, .unset] [(.int 5), (.ref ta)]))) (fun t k => XS.aload X3.here hx rfl (hb hby at_81) rfl rfl (XS.iload X3.here hx rfl (hb hby at_83) rfl (XS.ifNo X3.here hx rfl (hb hby at_85) rfl ((if0 _ _).trans (feq (by decide)).1) (XS.iload X3.here hx rfl (hb hby at_88) rfl (XT.iconstV X3.here hx rfl 1 (hb hby at_90) (by decide) (XS.iadd X3.here hx rfl (hb hby at_91) rfl (XS.goto X3.here hx rfl (pc0 := 92) (pc' := 97) rfl (hb hby at_92) (by decide) (by decide) k))))))) ?_
  obtain ⟨_, _, ⟨T5, L5, k5, n5⟩, -, X5, ⟨Lc5, hQ5, l5, y5, z5⟩, st5⟩ := Jvm.LawKit.callS X3 hx (y := Y27) hown (mvT hZ (ow hw 6 rfl)) (mvT hZ (ow hw 7 rfl)) (mvT hZ (ow hw 3 rfl)) (mvT hZ (ow hw 8 rfl)) (by decide) (backOf (W := 0) (rm_tk5 l Z a0 hw [] ta kt c0 c1 c2 c3 (10 : Int32) cs h3 n0 f4_0 V3 f4_1 (own_h1 hc0) (own_h1 hc1) (own_h1 hc2) (own_h1 hc3) (by decide) hcs) hZ (ow hw 8 rfl) (ow hw 3 rfl) (by decide) (by decide)) (g := (mkF m 97 #[.val (.int p0), .val (.int p1), .val (.int p2), .val (.int p3), .val (.int p4), .val (.int 4), .val (.int 1), .val (.ref ta), .val (.ref b1_0), .unset, .unset] [(.int 5), (.ref ta)])) rfl (by rw [hml]; rfl) (argsL := [(.ref ta), (.int 5)]) (rest := []) (lenOf pd_24 rfl) rfl (Nat.le_of_eq rfl) (hb hby at_97) (fun _ _ => ⟨rfl, e3, (by decide : 4 + 3 ≤ _), (by decide : 78 + 74 ≤ _)⟩)
  dsimp only [Pt.U, Pt.locs, Pt.cells, Pt.slots] at X5 l5 y5 z5 st5 hQ5
  subst l5 y5 z5
  obtain ⟨b5_0, b5_1, k5_0, rfl, N5q, K5, sf5_0, sf5_1, o5_0, o5_1, o5_2, o5_3⟩ := hQ5
  have ne_ta_b5_0 : ta ≠ b5_0 := Nat.ne_of_lt (Nat.lt_of_lt_of_le V3.lt sf5_0)
  have ne_b1_0_b5_0 : b1_0 ≠ b5_0 := Nat.ne_of_lt (Nat.lt_of_lt_of_le f4_7.lt sf5_0)
  have ne_b1_1_b5_0 : b1_1 ≠ b5_0 := Nat.ne_of_lt (Nat.lt_of_lt_of_le f4_10.lt sf5_0)
  have g_b5_0 : n0 ≤ b5_0 := Nat.le_trans f4_0 sf5_0
  have ne_ta_b5_1 : ta ≠ b5_1 := Nat.ne_of_lt (Nat.lt_of_lt_of_le V3.lt sf5_1)
  have ne_b1_0_b5_1 : b1_0 ≠ b5_1 := Nat.ne_of_lt (Nat.lt_of_lt_of_le f4_7.lt sf5_1)
  have ne_b1_1_b5_1 : b1_1 ≠ b5_1 := Nat.ne_of_lt (Nat.lt_of_lt_of_le f4_10.lt sf5_1)
  have g_b5_1 : n0 ≤ b5_1 := Nat.le_trans f4_0 sf5_1
  have sf_b5_0 : Safe Z consts_1 vm0 h3 b5_0 := Safe.new sf5_0
  have sf_b5_1 : Safe Z consts_1 vm0 h3 b5_1 := Safe.new sf5_1
  have f6_0 := Nat.le_trans f4_0 K5.1
  have f6_1 := Sta_keep0 f4_1 K5
  have f6_2 := Sta_keep0 f4_2 K5
  have f6_3 := CHv.keep K5 sf0 f4_3
  have f6_4 := Nat.le_trans f4_4 K5.1
  have f6_5 := Safe.keep K5 sf0 f4_3 f4_5
  have f6_6 := Safe.keep K5 sf0 f4_3 f4_6
  have f6_7 := f4_7.keep K5
  have f6_8 := f4_8.keep K5 nin0
  have f6_9 := f4_9.keep K5 nin0
  have f6_10 := f4_10.keep K5 nin0
  have f6_11 := V3.keep K5 nin0
  have f6_12 := Safe.keep K5 sf0 f4_3 sf_b5_0
  have f6_13 := Safe.keep K5 sf0 f4_3 sf_b5_1
  have N5 := Fr.app N3 N5q
  refine Wp.back (U' := (T5.setTop (mkF m 100 #[.val (.int p0), .val (.int p1), .val (.int p2), .val (.int p3), .val (.int p4), .val (.int 4), .val (.int 1), .val (.ref ta), .val (.ref b1_0), .unset, .unset] [(.ref b5_0)]))) st5 ?_
  refine Wp.back (U' := (T5.setTop (mkF m 104 #[.val (.int p0), .val (.int p1), .val (.int p2), .val (.int p3), .val (.int p4), .val (.int 4), .val (.int 1), .val (.ref ta), .val (.ref b1_0), .val (.ref b5_0), .unset] [(.ref b5_0)]))) (fun t k => XS.astore X5.here hx rfl (hb hby at_100) rfl rfl (l' := #[.val (.int p0), .val (.int p1), .val (.int p2), .val (.int p3), .val (.int p4), .val (.int 4), .val (.int 1), .val (.ref ta), .val (.ref b1_0), .val (.ref b5_0), .unset]) rfl (XS.aload X5.here hx rfl (hb hby at_102) rfl rfl k)) ?_
  obtain ⟨a7, T7, h7, k7, b7, kc7, X7, e7, E7, hS7, hk7, hZ, hown, A7, C7, V7, K7, la7, lb7, R7, L7, Sf7, st7⟩ := ldcCH X5 hx hZ hown (ow hw 38 rfl) wS rfl hS0 f6_4 hEL (List.mem_of_getElem? (i := 1) rfl) f6_3 (vs := [(.int 115)]) (z := (1 : Int32)) ⟨by decide, rfl⟩ (by decide) rfl (g := (mkF m 104 #[.val (.int p0), .val (.int p1), .val (.int p2), .val (.int p3), .val (.int p4), .val (.int 4), .val (.int 1), .val (.ref ta), .val (.ref b1_0), .val (.ref b5_0), .unset] [(.ref b5_0)])) rfl (hb hby at_104) (n := 4) (by decide) (by decide) (by decide) (by decide)
  have f8_0 := Nat.le_trans f6_0 E7.1
  have f8_1 := f6_1.ext E7
  have f8_2 := f6_2.ext E7
  have f8_3 := R7.1
  have f8_4 := hk7
  have f8_5 := CHr.safe R7 f6_7.lt f6_5
  have f8_6 := CHr.safe R7 f6_10.lt f6_6
  have f8_7 := f6_7.ext E7
  have f8_8 := f6_8.ext E7
  have f8_9 := f6_9.ext E7
  have f8_10 := f6_10.ext E7
  have f8_11 := f6_11.ext E7
  have f8_12 := CHr.safe R7 o5_0.lt f6_12
  have f8_13 := CHr.safe R7 o5_3.lt f6_13
  have f8_14 := o5_0.ext E7
  have f8_15 := o5_1.ext E7
  have f8_16 := o5_2.ext E7
  have f8_17 := o5_3.ext E7
  have ne_b1_0_a7 : b1_0 ≠ a7 := (Sf7 _ f8_5).1
  have ne_b1_0_b7 : b1_0 ≠ b7 := (Sf7 _ f8_5).2
  have ne_b1_1_a7 : b1_1 ≠ a7 := (Sf7 _ f8_6).1
  have ne_b1_1_b7 : b1_1 ≠ b7 := (Sf7 _ f8_6).2
  have ne_b5_0_a7 : b5_0 ≠ a7 := (Sf7 _ f8_12).1
  have ne_b5_0_b7 : b5_0 ≠ b7 := (Sf7 _ f8_12).2
  have ne_b5_1_a7 : b5_1 ≠ a7 := (Sf7 _ f8_13).1
  have ne_b5_1_b7 : b5_1 ≠ b7 := (Sf7 _ f8_13).2
  refine Wp.back (U' := (T7.setTop (mkF m 106 #[.val (.int p0), .val (.int p1), .val (.int p2), .val (.int p3), .val (.int p4), .val (.int 4), .val (.int 1), .val (.ref ta), .val (.ref b1_0), .val (.ref b5_0), .unset] [(.ref a7), (.ref b5_0)]))) st7 ?_
  obtain ⟨_, _, ⟨T9, L9, k9, n9⟩, -, X9, hS9, gr9, ⟨Lc9, hQ9, l9, y9, z9, R9⟩, st9⟩ := callSS X7 hx (y := Y21) hown (mvT hZ (ow hw 41 rfl)) (mvT hZ (ow hw 42 rfl)) (mvT hZ (ow hw 43 rfl)) (mvT hZ (ow hw 44 rfl)) (by decide) (backOfSH (W := 0) (rm_dge5 l Z a0 hw [] b5_0 a7 b5_1 cs fm k5_0 (nar .byte ((nar .char c0)).toInt8.toInt32) (nar .byte ((nar .char c1)).toInt8.toInt32) (nar .byte ((nar .char c2)).toInt8.toInt32) (nar .byte ((nar .char c3)).toInt8.toInt32) (nar .byte ((nar .char (10 : Int32))).toInt8.toInt32) h7 n0 f8_0 f8_14 f8_15 f8_16 f8_17 f8_1 f8_2 isr_fm (own_h2 hc0) (own_h2 hc1) (own_h2 hc2) (own_h2 hc3) (by decide) hcs) hZ (ow hw 44 rfl) (ow hw 43 rfl) (by decide) (by decide) hEL f8_3) (g := (mkF m 106 #[.val (.int p0), .val (.int p1), .val (.int p2), .val (.int p3), .val (.int p4), .val (.int 4), .val (.int 1), .val (.ref ta), .val (.ref b1_0), .val (.ref b5_0), .unset] [(.ref a7), (.ref b5_0)])) rfl (by rw [hml]; rfl) (argsL := [(.ref b5_0), (.ref a7)]) (rest := []) (lenOf pd_25 rfl) rfl (Nat.le_of_eq rfl) (hb hby at_106) (fun _ _ => ⟨rfl, e7, (by decide : 9 + 4 ≤ _), (by decide : 160 + 16 ≤ _)⟩)
  dsimp only [Pt.U, Pt.locs, Pt.cells, Pt.slots] at X9 l9 y9 z9 st9 hQ9 hS9 gr9 R9
  subst l9 y9 z9
  obtain ⟨X9, hS9, hZ, hown⟩ := rebS hS7 (by rw [e7]; exact f8_4) X9 hS9 gr9 hZ hown
  obtain ⟨b9_0, b9_1, k9_0, rfl, N9q, K9, sf9_0, sf9_1, o9_0, o9_1, o9_2, o9_3⟩ := hQ9
  have ne_ta_b9_0 : ta ≠ b9_0 := Nat.ne_of_lt (Nat.lt_of_lt_of_le f8_11.lt sf9_0)
  have ne_b1_0_b9_0 : b1_0 ≠ b9_0 := Nat.ne_of_lt (Nat.lt_of_lt_of_le f8_7.lt sf9_0)
  have ne_b1_1_b9_0 : b1_1 ≠ b9_0 := Nat.ne_of_lt (Nat.lt_of_lt_of_le f8_10.lt sf9_0)
  have ne_b5_0_b9_0 : b5_0 ≠ b9_0 := Nat.ne_of_lt (Nat.lt_of_lt_of_le f8_14.lt sf9_0)
  have ne_b5_1_b9_0 : b5_1 ≠ b9_0 := Nat.ne_of_lt (Nat.lt_of_lt_of_le f8_17.lt sf9_0)
  have ne_a7_b9_0 : a7 ≠ b9_0 := Nat.ne_of_lt (Nat.lt_of_lt_of_le A7.lt sf9_0)
  have ne_b7_b9_0 : b7 ≠ b9_0 := Nat.ne_of_lt (Nat.lt_of_lt_of_le K7.lt sf9_0)
  have g_b9_0 : n0 ≤ b9_0 := Nat.le_trans f8_0 sf9_0
  have ne_ta_b9_1 : ta ≠ b9_1 := Nat.ne_of_lt (Nat.lt_of_lt_of_le f8_11.lt sf9_1)
  have ne_b1_0_b9_1 : b1_0 ≠ b9_1 := Nat.ne_of_lt (Nat.lt_of_lt_of_le f8_7.lt sf9_1)
  have ne_b1_1_b9_1 : b1_1 ≠ b9_1 := Nat.ne_of_lt (Nat.lt_of_lt_of_le f8_10.lt sf9_1)
  have ne_b5_0_b9_1 : b5_0 ≠ b9_1 := Nat.ne_of_lt (Nat.lt_of_lt_of_le f8_14.lt sf9_1)
  have ne_b5_1_b9_1 : b5_1 ≠ b9_1 := Nat.ne_of_lt (Nat.lt_of_lt_of_le f8_17.lt sf9_1)
  have ne_a7_b9_1 : a7 ≠ b9_1 := Nat.ne_of_lt (Nat.lt_of_lt_of_le A7.lt sf9_1)
  have ne_b7_b9_1 : b7 ≠ b9_1 := Nat.ne_of_lt (Nat.lt_of_lt_of_le K7.lt sf9_1)
  have g_b9_1 : n0 ≤ b9_1 := Nat.le_trans f8_0 sf9_1
  have f10_0 := Nat.le_trans f8_0 K9.1
  have f10_1 := Sta_keep0 f8_1 K9
  have f10_2 := Sta_keep0 f8_2 K9
  have f10_3 := R9.1
  have f10_4 := Nat.le_refl T9.heap.size
  have f10_5 := CHr.safe R9 f8_7.lt f8_5
  have f10_6 := CHr.safe R9 f8_10.lt f8_6
  have f10_7 := f8_7.keep K9
  have f10_8 := f8_8.keep K9 nin0
  have f10_9 := f8_9.keep K9 nin0
  have f10_10 := f8_10.keep K9 nin0
  have f10_11 := f8_11.keep K9 nin0
  have f10_12 := CHr.safe R9 f8_14.lt f8_12
  have f10_13 := CHr.safe R9 f8_17.lt f8_13
  have f10_14 := f8_14.keep K9
  have f10_15 := f8_15.keep K9 nin0
  have f10_16 := f8_16.keep K9 nin0
  have f10_17 := f8_17.keep K9 nin0
  have f10_18 := A7.keep K9
  have f10_19 := C7.keep K9 nin0
  have f10_20 := V7.keep K9 nin0
  have f10_21 := K7.keep K9 nin0
  have N9 := Fr.app N5 N9q
  refine Wp.back (U' := (T9.setTop (mkF m 109 #[.val (.int p0), .val (.int p1), .val (.int p2), .val (.int p3), .val (.int p4), .val (.int 4), .val (.int 1), .val (.ref ta), .val (.ref b1_0), .val (.ref b5_0), .unset] [(.ref b9_0)]))) (fun t k => st9.trans k) ?_
  refine Wp.back (U' := (T9.setTop (mkF m 115 #[.val (.int p0), .val (.int p1), .val (.int p2), .val (.int p3), .val (.int p4), .val (.int 4), .val (.int 1), .val (.ref ta), .val (.ref b1_0), .val (.ref b5_0), .val (.ref b9_0)] [(.ref b1_0), (.ref b9_0)]))) (fun t k => XS.astore X9.here hx rfl (hb hby at_109) rfl rfl (l' := #[.val (.int p0), .val (.int p1), .val (.int p2), .val (.int p3), .val (.int p4), .val (.int 4), .val (.int 1), .val (.ref ta), .val (.ref b1_0), .val (.ref b5_0), .val (.ref b9_0)]) rfl (XS.aload X9.here hx rfl (hb hby at_111) rfl rfl (XS.aload X9.here hx rfl (hb hby at_113) rfl rfl k))) ?_
  obtain ⟨cq11, kq11, q11a, q11b, q11c⟩ := isOf hZ rfl o9_0
  obtain ⟨_, _, ⟨T11, L11, k11, n11⟩, -, X11, ⟨Lc11, hQ11, l11, y11, z11⟩, st11⟩ := X9.virtualBack hx (y := Y29) (z := Y29) hown (mvT hZ (ow hw 107 rfl)) (mvT hZ (ow hw 108 rfl)) (notFace_of_selects (args := #[]) (mvT hZ (ow hw 110 rfl))) (mvT hZ (ow hw 110 rfl)) (mvT hZ (ow hw 109 rfl)) (by decide) (backOf (W := 0) (rm_eqg l Z a0 hw [] b9_0 b1_0 b9_1 b1_1 k9_0 k1_0 cs (4 : Int32) [(.int (nar .byte ((nar .char c0)).toInt8.toInt32)), (.int (nar .byte ((nar .char c1)).toInt8.toInt32)), (.int (nar .byte ((nar .char c2)).toInt8.toInt32)), (.int (nar .byte ((nar .char c3)).toInt8.toInt32))] T9.heap n0 f10_0 o9_0 o9_1 o9_2 o9_3 f10_7 f10_8 f10_9 f10_10 f10_1 (Ne.symm ne_b1_0_b9_0) own_q4 hcs) hZ (ow hw 111 rfl) (ow hw 11 rfl) (by decide) (by decide)) q11a q11c (g := (mkF m 115 #[.val (.int p0), .val (.int p1), .val (.int p2), .val (.int p3), .val (.int p4), .val (.int 4), .val (.int 1), .val (.ref ta), .val (.ref b1_0), .val (.ref b5_0), .val (.ref b9_0)] [(.ref b1_0), (.ref b9_0)])) rfl (by rw [hml]; rfl) (Steps.refl _) (argsL := [(.ref b1_0)]) (rest := []) (lenOf pd_26 rfl) rfl (Nat.le_of_eq rfl) (hb hby at_115) (fun _ _ => ⟨rfl, rfl, (by decide : 13 + 0 ≤ _), (by decide : 176 + 0 ≤ _)⟩)
  dsimp only [Pt.U, Pt.locs, Pt.cells, Pt.slots] at X11 l11 y11 z11 st11 hQ11
  subst l11 y11 z11
  obtain ⟨rfl, N11q, K11⟩ := hQ11
  have f12_0 := Nat.le_trans f10_0 K11.1
  have f12_1 := Sta_keep0 f10_1 K11
  have f12_2 := Sta_keep0 f10_2 K11
  have f12_3 := CHv.keep K11 sf0 f10_3
  have f12_4 := Nat.le_trans f10_4 K11.1
  have f12_5 := Safe.keep K11 sf0 f10_3 f10_5
  have f12_6 := Safe.keep K11 sf0 f10_3 f10_6
  have f12_7 := f10_7.keep K11
  have f12_8 := f10_8.keep K11 nin0
  have f12_9 := f10_9.keep K11 nin0
  have f12_10 := f10_10.keep K11 nin0
  have f12_11 := f10_11.keep K11 nin0
  have f12_12 := Safe.keep K11 sf0 f10_3 f10_12
  have f12_13 := Safe.keep K11 sf0 f10_3 f10_13
  have f12_14 := f10_14.keep K11
  have f12_15 := f10_15.keep K11 nin0
  have f12_16 := f10_16.keep K11 nin0
  have f12_17 := f10_17.keep K11 nin0
  have f12_18 := f10_18.keep K11
  have f12_19 := f10_19.keep K11 nin0
  have f12_20 := f10_20.keep K11 nin0
  have f12_21 := f10_21.keep K11 nin0
  have f12_22 := o9_0.keep K11
  have f12_23 := o9_1.keep K11 nin0
  have f12_24 := o9_2.keep K11 nin0
  have f12_25 := o9_3.keep K11 nin0
  have N11 := Fr.app N9 N11q
  refine Wp.back (U' := (T11.setTop (mkF m 118 #[.val (.int p0), .val (.int p1), .val (.int p2), .val (.int p3), .val (.int p4), .val (.int 4), .val (.int 1), .val (.ref ta), .val (.ref b1_0), .val (.ref b5_0), .val (.ref b9_0)] [(.int 1)]))) (fun t k => st11.trans k) ?_
  obtain ⟨fs, hr, hrun, hended, hend⟩ := X11.leaveW hS9 f12_4 (v := (some (.int 1))) (fun h => by rw [hret] at h; cases h)
  refine Wp.done (retN X11 hx (t := .boolean) hret (by simp) (hb hby at_118) hr) hrun hended ⟨_, _, rfl, ?_, hend.1, hend.2.1, hend.2.2.1, hend.2.2.2.mono (by decide) (by decide)⟩
  show QL n0 _ T11.heap _
  exact ⟨rfl, N11⟩
theorem pn0 : plainName "com/example/surebit/surebit/input/HexNumberDigitsPinLaw" = true := by first | (simp [plainName, overriddenIn]; done) | decide +kernel
theorem ef0_IIIII (m : MethodId) (x0 : Int32) (x1 : Int32) (x2 : Int32) (x3 : Int32) (x4 : Int32) : entryFrame m #[(.int x0), (.int x1), (.int x2), (.int x3), (.int x4)] maxLocals = mkF m 0 #[.val (.int x0), .val (.int x1), .val (.int x2), .val (.int x3), .val (.int x4), .unset, .unset, .unset, .unset, .unset, .unset] [] := by first | (simp [entryFrame, mkF, argsToLocals, Value.category, maxLocals]; done) | rfl
set_option maxRecDepth 65536 in
set_option maxHeartbeats 40000000 in
theorem rm_law (l : Launch) (Z : State) (a0 : Array Value) (hw : ∀ d ∈ tables_1, d.before a0 Z = true) (ws : List Jvm.Cond) (p0 : Int32) (p1 : Int32) (p2 : Int32) (p3 : Int32) (p4 : Int32) (cs : Int32) (fm : Value) (h0 : Heap) (n0 : Nat) (Z0 : n0 ≤ h0.size) (PC : Sta Z h0 "java/lang/String" "COMPACT_STRINGS" "Z" (.int cs)) (PF : Sta Z h0 "jdk/internal/util/Preconditions" "SIOOBE_FORMATTER" "Ljava/util/function/BiFunction;" fm) (hcs : ¬ cs = (0 : Int32)) (isr_fm : fm.isRef = true) :
    MetFree l x (head1 (Jvm.Cond.code x code maxLocals ret :: ws) room_1) (fun a U => a = #[(.int p0), (.int p1), (.int p2), (.int p3), (.int p4)] ∧ Z.Warmed39 U.vm ∧ U.heap = h0 ∧ CHv Z consts_1 U.vm h0) (fun _ _ _ _ _ => True) (fun _ U o U' => ∃ v L, o = .returned v ∧ QL n0 v U'.heap L ∧ ReturnedEndW U o U' L 32 2240) := by
  refine MetFree.of_bodySF (plainFor_of_name pn0) hisR ?_
  intro p e s m args below meth c s₁ Bd hml0 hP hK
  obtain ⟨rfl, hZ, hh, hCH⟩ := hP
  have hx := Bd.exec
  have hby := Bd.bytes
  have hret := Bd.returns
  have hlk := Bd.notSynchronized
  have hml : c.maxLocals = 11 := hml0
  have hown : s.vm.findClass "com/example/surebit/surebit/input/HexNumberDigitsPinLaw" = some m.cls := findClass_of_methodNamed Bd.named
  have hnm := (name_of_methodNamed Bd.named Bd.method).1
  have hZ : Z.Warmed39 (s.setVm s.vm).vm := hZ
  have hown : (s.setVm s.vm).vm.findClass "com/example/surebit/surebit/input/HexNumberDigitsPinLaw" = some m.cls := hown
  have hS0 : s.Since s.vm h0.size := (State.WarmedH.refl s).since _
  have hk0 : h0.size ≤ h0.size := Nat.le_refl _
  have CR0 : CHr Z consts_1 s.vm h0 s.vm h0 := CHr.refl hCH
  have hEL : EW Z a0 consts_1 := own_EW hw
  have wS := own_wS hw
  have X0 : Stand p l e room_1 (s.setVm s.vm) m #[(.int p0), (.int p1), (.int p2), (.int p3), (.int p4)] below meth c s₁ [] 0 0 := Stand.of_body Bd
  have e0 : s₁.heap = h0 := by rw [← hh, Bd.state]; rfl
  have N0 := Fr.nil n0
  show Wp p e below (fun o s₂ => ∃ v L, o = .returned v ∧ QL n0 v s₂.heap L ∧ ReturnedEndW s o s₂ L 32 2240) _
  refine Wp.back (U' := (s₁.setTop (mkF m 0 #[.val (.int p0), .val (.int p1), .val (.int p2), .val (.int p3), .val (.int p4), .unset, .unset, .unset, .unset, .unset, .unset] []))) (fun t k => castTop (ef0_IIIII m p0 p1 p2 p3 p4) k) ?_
  refine Wp.back (U' := (s₁.setTop (mkF m 12 #[.val (.int p0), .val (.int p1), .val (.int p2), .val (.int p3), .val (.int p4), .val (.int ((1 : Int32) + (p4 &&& (3 : Int32)))), .unset, .unset, .unset, .unset, .unset] [(.int (p4 &&& (4 : Int32)))]))) (fun t k => XT.iconstV X0.here hx rfl 1 (hb hby at_0) (by decide) (XS.iload X0.here hx rfl (hb hby at_1) rfl (XT.iconstV X0.here hx rfl 3 (hb hby at_3) (by decide) (XS.iand X0.here hx rfl (hb hby at_4) rfl (XS.iadd X0.here hx rfl (hb hby at_5) rfl (XS.istore X0.here hx rfl (hb hby at_6) rfl (l' := #[.val (.int p0), .val (.int p1), .val (.int p2), .val (.int p3), .val (.int p4), .val (.int ((1 : Int32) + (p4 &&& (3 : Int32)))), .unset, .unset, .unset, .unset, .unset]) rfl (XS.iload X0.here hx rfl (hb hby at_8) rfl (XT.iconstV X0.here hx rfl 4 (hb hby at_10) (by decide) (XS.iand X0.here hx rfl (hb hby at_11) rfl k))))))))) ?_
  by_cases c12_1 : (p4 &&& (4 : Int32)) = (0 : Int32)
  · refine Wp.back (U' := (s₁.setTop (mkF m 23 #[.val (.int p0), .val (.int p1), .val (.int p2), .val (.int p3), .val (.int p4), .val (.int ((1 : Int32) + (p4 &&& (3 : Int32)))), .val (.int 0), .unset, .unset, .unset, .unset] [(.int 5)]))) (fun t k => XS.ifYes X0.here hx rfl (pc0 := 12) (pc' := 19) rfl (hb hby at_12) rfl ((if0 _ _).trans (teq c12_1).1) (by decide) (by decide) (XT.iconstV X0.here hx rfl 0 (hb hby at_19) (by decide) (XS.istore X0.here hx rfl (hb hby at_20) rfl (l' := #[.val (.int p0), .val (.int p1), .val (.int p2), .val (.int p3), .val (.int p4), .val (.int ((1 : Int32) + (p4 &&& (3 : Int32)))), .val (.int 0), .unset, .unset, .unset, .unset]) rfl (XT.iconstV X0.here hx rfl 5 (hb hby at_22) (by decide) k)))) ?_
    obtain ⟨T2, h2, k2, X2, e2, E2, A2, st2⟩ := newP X0 hx hZ (ow hw 0 rfl) e0 (g := (mkF m 23 #[.val (.int p0), .val (.int p1), .val (.int p2), .val (.int p3), .val (.int p4), .val (.int ((1 : Int32) + (p4 &&& (3 : Int32)))), .val (.int 0), .unset, .unset, .unset, .unset] [(.int 5)])) rfl (hb hby at_23) rfl (by decide) (cap := 5) (by decide) (by decide) (by decide) (by decide)
    obtain ⟨b2, g2⟩ : ∃ z, z = h0.size := ⟨_, rfl⟩
    rw [← g2] at A2 st2
    have g_b2 : n0 ≤ b2 := Nat.le_trans Z0 (Nat.le_of_eq g2.symm)
    have sf_b2 : Safe Z consts_1 s.vm h0 b2 := Safe.new (Nat.le_of_eq g2.symm)
    have f3_0 := Nat.le_trans Z0 E2.1
    have f3_1 := PC.ext E2
    have f3_2 := PF.ext E2
    have f3_3 := CHv.ext E2 hCH
    have f3_4 := Nat.le_trans hk0 E2.1
    have f3_5 := Safe.ext E2 hCH sf_b2
    have V2 : Arv Z h2 b2 k2 .char (5 : Int32) [(.int 0), (.int 0), (.int 0), (.int 0), (.int 0)] (.int 0) := (Arv.new A2 (by decide)).pad (pad_rep [] (.int 0) 5)
    refine Wp.back (U' := (T2.setTop (mkF m 25 #[.val (.int p0), .val (.int p1), .val (.int p2), .val (.int p3), .val (.int p4), .val (.int ((1 : Int32) + (p4 &&& (3 : Int32)))), .val (.int 0), .unset, .unset, .unset, .unset] [(.ref b2)]))) st2 ?_
    refine Wp.back (U' := (T2.setTop (mkF m 28 #[.val (.int p0), .val (.int p1), .val (.int p2), .val (.int p3), .val (.int p4), .val (.int ((1 : Int32) + (p4 &&& (3 : Int32)))), .val (.int 0), .unset, .unset, .unset, .unset] [(.int p0), (.int 0), (.ref b2), (.ref b2)]))) (fun t k => XS.dup X2.here hx rfl (hb hby at_25) rfl rfl (XT.iconstV X2.here hx rfl 0 (hb hby at_26) (by decide) (XS.iloadN X2.here hx rfl (hb hby at_27) rfl k))) ?_
    obtain ⟨_, _, ⟨T4, L4, k4, n4⟩, -, X4, ⟨Lc4, hQ4, l4, y4, z4⟩, st4⟩ := Jvm.LawKit.callS X2 hx (y := Y0) hown (mvT hZ (ow hw 1 rfl)) (mvT hZ (ow hw 2 rfl)) (mvT hZ (ow hw 3 rfl)) (mvT hZ (ow hw 4 rfl)) (by decide) (backOf (W := 3) (rm_f_hex l Z a0 hw [] p0 h2 n0 f3_0 ) hZ (ow hw 4 rfl) (ow hw 3 rfl) (by decide) (by decide)) (g := (mkF m 28 #[.val (.int p0), .val (.int p1), .val (.int p2), .val (.int p3), .val (.int p4), .val (.int ((1 : Int32) + (p4 &&& (3 : Int32)))), .val (.int 0), .unset, .unset, .unset, .unset] [(.int p0), (.int 0), (.ref b2), (.ref b2)])) rfl (by rw [hml]; rfl) (argsL := [(.int p0)]) (rest := [(.int 0), (.ref b2), (.ref b2)]) (lenOf pd_15 rfl) rfl (Nat.le_of_eq rfl) (hb hby at_28) (fun _ _ => ⟨rfl, e2, (by decide : 1 + 0 ≤ _), (by decide : 5 + 0 ≤ _)⟩)
    dsimp only [Pt.U, Pt.locs, Pt.cells, Pt.slots] at X4 l4 y4 z4 st4 hQ4
    subst l4 y4 z4
    obtain ⟨rfl, N4q, e4⟩ := hQ4
    have N4 := Fr.app N0 N4q
    refine Wp.back (U' := (T4.setTop (mkF m 31 #[.val (.int p0), .val (.int p1), .val (.int p2), .val (.int p3), .val (.int p4), .val (.int ((1 : Int32) + (p4 &&& (3 : Int32)))), .val (.int 0), .unset, .unset, .unset, .unset] [(.int (f_hex p0)), (.int 0), (.ref b2), (.ref b2)]))) st4 ?_
    have vq5 := V2
    obtain ⟨cl5, Ar5, qa5, qs5, qn5, qh5, qg5⟩ := vq5
    have hin5 : ¬ ((0 : Int32) < 0 ∨ cl5.slots.size ≤ ((0 : Int32)).toNatClampNeg) := inb_of qs5 ⟨by decide, by decide⟩
    obtain ⟨T5, h5, X5, e5, W5, st5⟩ := stC X4 hx hZ e4 Ar5 (j := (0 : Int32)) hin5 (g := (mkF m 31 #[.val (.int p0), .val (.int p1), .val (.int p2), .val (.int p3), .val (.int p4), .val (.int ((1 : Int32) + (p4 &&& (3 : Int32)))), .val (.int 0), .unset, .unset, .unset, .unset] [(.int (f_hex p0)), (.int 0), (.ref b2), (.ref b2)])) rfl rfl (hb hby at_31)
    have V5 : Arv Z h5 b2 k2 .char (5 : Int32) [(.int (nar .char (f_hex p0))), (.int 0), (.int 0), (.int 0), (.int 0)] (.int 0) := Arv.set Ar5 qa5 qs5 qn5 qh5 qg5 (fits_nar_char (f_hex p0)) W5 0 rfl (Nat.le_of_ble_eq_true rfl)
    have f6_0 := Nat.le_trans f3_0 (Keep.of_wr W5).1
    have f6_1 := f3_1.wr W5
    have f6_2 := f3_2.wr W5
    have f6_3 := CHv.wr W5 f3_5 f3_3
    have f6_4 := Nat.le_trans f3_4 (Keep.of_wr W5).1
    have f6_5 := Safe.wr W5 f3_5 f3_3 f3_5
    have N5 := Fr.snoc X5 N4 g_b2
    refine Wp.back (U' := (T5.setTop (mkF m 32 #[.val (.int p0), .val (.int p1), .val (.int p2), .val (.int p3), .val (.int p4), .val (.int ((1 : Int32) + (p4 &&& (3 : Int32)))), .val (.int 0), .unset, .unset, .unset, .unset] [(.ref b2)]))) st5 ?_
    refine Wp.back (U' := (T5.setTop (mkF m 35 #[.val (.int p0), .val (.int p1), .val (.int p2), .val (.int p3), .val (.int p4), .val (.int ((1 : Int32) + (p4 &&& (3 : Int32)))), .val (.int 0), .unset, .unset, .unset, .unset] [(.int p1), (.int 1), (.ref b2), (.ref b2)]))) (fun t k => XS.dup X5.here hx rfl (hb hby at_32) rfl rfl (XT.iconstV X5.here hx rfl 1 (hb hby at_33) (by decide) (XS.iloadN X5.here hx rfl (hb hby at_34) rfl k))) ?_
    obtain ⟨_, _, ⟨T7, L7, k7, n7⟩, -, X7, ⟨Lc7, hQ7, l7, y7, z7⟩, st7⟩ := Jvm.LawKit.callS X5 hx (y := Y0) hown (mvT hZ (ow hw 1 rfl)) (mvT hZ (ow hw 2 rfl)) (mvT hZ (ow hw 3 rfl)) (mvT hZ (ow hw 4 rfl)) (by decide) (backOf (W := 3) (rm_f_hex l Z a0 hw [] p1 h5 n0 f6_0 ) hZ (ow hw 4 rfl) (ow hw 3 rfl) (by decide) (by decide)) (g := (mkF m 35 #[.val (.int p0), .val (.int p1), .val (.int p2), .val (.int p3), .val (.int p4), .val (.int ((1 : Int32) + (p4 &&& (3 : Int32)))), .val (.int 0), .unset, .unset, .unset, .unset] [(.int p1), (.int 1), (.ref b2), (.ref b2)])) rfl (by rw [hml]; rfl) (argsL := [(.int p1)]) (rest := [(.int 1), (.ref b2), (.ref b2)]) (lenOf pd_15 rfl) rfl (Nat.le_of_eq rfl) (hb hby at_35) (fun _ _ => ⟨rfl, e5, (by decide : 1 + 0 ≤ _), (by decide : 5 + 0 ≤ _)⟩)
    dsimp only [Pt.U, Pt.locs, Pt.cells, Pt.slots] at X7 l7 y7 z7 st7 hQ7
    subst l7 y7 z7
    obtain ⟨rfl, N7q, e7⟩ := hQ7
    have N7 := Fr.app N5 N7q
    refine Wp.back (U' := (T7.setTop (mkF m 38 #[.val (.int p0), .val (.int p1), .val (.int p2), .val (.int p3), .val (.int p4), .val (.int ((1 : Int32) + (p4 &&& (3 : Int32)))), .val (.int 0), .unset, .unset, .unset, .unset] [(.int (f_hex p1)), (.int 1), (.ref b2), (.ref b2)]))) st7 ?_
    have vq8 := V5
    obtain ⟨cl8, Ar8, qa8, qs8, qn8, qh8, qg8⟩ := vq8
    have hin8 : ¬ ((1 : Int32) < 0 ∨ cl8.slots.size ≤ ((1 : Int32)).toNatClampNeg) := inb_of qs8 ⟨by decide, by decide⟩
    obtain ⟨T8, h8, X8, e8, W8, st8⟩ := stC X7 hx hZ e7 Ar8 (j := (1 : Int32)) hin8 (g := (mkF m 38 #[.val (.int p0), .val (.int p1), .val (.int p2), .val (.int p3), .val (.int p4), .val (.int ((1 : Int32) + (p4 &&& (3 : Int32)))), .val (.int 0), .unset, .unset, .unset, .unset] [(.int (f_hex p1)), (.int 1), (.ref b2), (.ref b2)])) rfl rfl (hb hby at_38)
    have V8 : Arv Z h8 b2 k2 .char (5 : Int32) [(.int (nar .char (f_hex p0))), (.int (nar .char (f_hex p1))), (.int 0), (.int 0), (.int 0)] (.int 0) := Arv.set Ar8 qa8 qs8 qn8 qh8 qg8 (fits_nar_char (f_hex p1)) W8 1 rfl (Nat.le_of_ble_eq_true rfl)
    have f9_0 := Nat.le_trans f6_0 (Keep.of_wr W8).1
    have f9_1 := f6_1.wr W8
    have f9_2 := f6_2.wr W8
    have f9_3 := CHv.wr W8 f6_5 f6_3
    have f9_4 := Nat.le_trans f6_4 (Keep.of_wr W8).1
    have f9_5 := Safe.wr W8 f6_5 f6_3 f6_5
    have N8 := Fr.snoc X8 N7 g_b2
    refine Wp.back (U' := (T8.setTop (mkF m 39 #[.val (.int p0), .val (.int p1), .val (.int p2), .val (.int p3), .val (.int p4), .val (.int ((1 : Int32) + (p4 &&& (3 : Int32)))), .val (.int 0), .unset, .unset, .unset, .unset] [(.ref b2)]))) st8 ?_
    refine Wp.back (U' := (T8.setTop (mkF m 42 #[.val (.int p0), .val (.int p1), .val (.int p2), .val (.int p3), .val (.int p4), .val (.int ((1 : Int32) + (p4 &&& (3 : Int32)))), .val (.int 0), .unset, .unset, .unset, .unset] [(.int p2), (.int 2), (.ref b2), (.ref b2)]))) (fun t k => XS.dup X8.here hx rfl (hb hby at_39) rfl rfl (XT.iconstV X8.here hx rfl 2 (hb hby at_40) (by decide) (XS.iloadN X8.here hx rfl (hb hby at_41) rfl k))) ?_
    obtain ⟨_, _, ⟨T10, L10, k10, n10⟩, -, X10, ⟨Lc10, hQ10, l10, y10, z10⟩, st10⟩ := Jvm.LawKit.callS X8 hx (y := Y0) hown (mvT hZ (ow hw 1 rfl)) (mvT hZ (ow hw 2 rfl)) (mvT hZ (ow hw 3 rfl)) (mvT hZ (ow hw 4 rfl)) (by decide) (backOf (W := 3) (rm_f_hex l Z a0 hw [] p2 h8 n0 f9_0 ) hZ (ow hw 4 rfl) (ow hw 3 rfl) (by decide) (by decide)) (g := (mkF m 42 #[.val (.int p0), .val (.int p1), .val (.int p2), .val (.int p3), .val (.int p4), .val (.int ((1 : Int32) + (p4 &&& (3 : Int32)))), .val (.int 0), .unset, .unset, .unset, .unset] [(.int p2), (.int 2), (.ref b2), (.ref b2)])) rfl (by rw [hml]; rfl) (argsL := [(.int p2)]) (rest := [(.int 2), (.ref b2), (.ref b2)]) (lenOf pd_15 rfl) rfl (Nat.le_of_eq rfl) (hb hby at_42) (fun _ _ => ⟨rfl, e8, (by decide : 1 + 0 ≤ _), (by decide : 5 + 0 ≤ _)⟩)
    dsimp only [Pt.U, Pt.locs, Pt.cells, Pt.slots] at X10 l10 y10 z10 st10 hQ10
    subst l10 y10 z10
    obtain ⟨rfl, N10q, e10⟩ := hQ10
    have N10 := Fr.app N8 N10q
    refine Wp.back (U' := (T10.setTop (mkF m 45 #[.val (.int p0), .val (.int p1), .val (.int p2), .val (.int p3), .val (.int p4), .val (.int ((1 : Int32) + (p4 &&& (3 : Int32)))), .val (.int 0), .unset, .unset, .unset, .unset] [(.int (f_hex p2)), (.int 2), (.ref b2), (.ref b2)]))) st10 ?_
    have vq11 := V8
    obtain ⟨cl11, Ar11, qa11, qs11, qn11, qh11, qg11⟩ := vq11
    have hin11 : ¬ ((2 : Int32) < 0 ∨ cl11.slots.size ≤ ((2 : Int32)).toNatClampNeg) := inb_of qs11 ⟨by decide, by decide⟩
    obtain ⟨T11, h11, X11, e11, W11, st11⟩ := stC X10 hx hZ e10 Ar11 (j := (2 : Int32)) hin11 (g := (mkF m 45 #[.val (.int p0), .val (.int p1), .val (.int p2), .val (.int p3), .val (.int p4), .val (.int ((1 : Int32) + (p4 &&& (3 : Int32)))), .val (.int 0), .unset, .unset, .unset, .unset] [(.int (f_hex p2)), (.int 2), (.ref b2), (.ref b2)])) rfl rfl (hb hby at_45)
    have V11 : Arv Z h11 b2 k2 .char (5 : Int32) [(.int (nar .char (f_hex p0))), (.int (nar .char (f_hex p1))), (.int (nar .char (f_hex p2))), (.int 0), (.int 0)] (.int 0) := Arv.set Ar11 qa11 qs11 qn11 qh11 qg11 (fits_nar_char (f_hex p2)) W11 2 rfl (Nat.le_of_ble_eq_true rfl)
    have f12_0 := Nat.le_trans f9_0 (Keep.of_wr W11).1
    have f12_1 := f9_1.wr W11
    have f12_2 := f9_2.wr W11
    have f12_3 := CHv.wr W11 f9_5 f9_3
    have f12_4 := Nat.le_trans f9_4 (Keep.of_wr W11).1
    have f12_5 := Safe.wr W11 f9_5 f9_3 f9_5
    have N11 := Fr.snoc X11 N10 g_b2
    refine Wp.back (U' := (T11.setTop (mkF m 46 #[.val (.int p0), .val (.int p1), .val (.int p2), .val (.int p3), .val (.int p4), .val (.int ((1 : Int32) + (p4 &&& (3 : Int32)))), .val (.int 0), .unset, .unset, .unset, .unset] [(.ref b2)]))) st11 ?_
    refine Wp.back (U' := (T11.setTop (mkF m 49 #[.val (.int p0), .val (.int p1), .val (.int p2), .val (.int p3), .val (.int p4), .val (.int ((1 : Int32) + (p4 &&& (3 : Int32)))), .val (.int 0), .unset, .unset, .unset, .unset] [(.int p3), (.int 3), (.ref b2), (.ref b2)]))) (fun t k => XS.dup X11.here hx rfl (hb hby at_46) rfl rfl (XT.iconstV X11.here hx rfl 3 (hb hby at_47) (by decide) (XS.iloadN X11.here hx rfl (hb hby at_48) rfl k))) ?_
    obtain ⟨_, _, ⟨T13, L13, k13, n13⟩, -, X13, ⟨Lc13, hQ13, l13, y13, z13⟩, st13⟩ := Jvm.LawKit.callS X11 hx (y := Y0) hown (mvT hZ (ow hw 1 rfl)) (mvT hZ (ow hw 2 rfl)) (mvT hZ (ow hw 3 rfl)) (mvT hZ (ow hw 4 rfl)) (by decide) (backOf (W := 3) (rm_f_hex l Z a0 hw [] p3 h11 n0 f12_0 ) hZ (ow hw 4 rfl) (ow hw 3 rfl) (by decide) (by decide)) (g := (mkF m 49 #[.val (.int p0), .val (.int p1), .val (.int p2), .val (.int p3), .val (.int p4), .val (.int ((1 : Int32) + (p4 &&& (3 : Int32)))), .val (.int 0), .unset, .unset, .unset, .unset] [(.int p3), (.int 3), (.ref b2), (.ref b2)])) rfl (by rw [hml]; rfl) (argsL := [(.int p3)]) (rest := [(.int 3), (.ref b2), (.ref b2)]) (lenOf pd_15 rfl) rfl (Nat.le_of_eq rfl) (hb hby at_49) (fun _ _ => ⟨rfl, e11, (by decide : 1 + 0 ≤ _), (by decide : 5 + 0 ≤ _)⟩)
    dsimp only [Pt.U, Pt.locs, Pt.cells, Pt.slots] at X13 l13 y13 z13 st13 hQ13
    subst l13 y13 z13
    obtain ⟨rfl, N13q, e13⟩ := hQ13
    have N13 := Fr.app N11 N13q
    refine Wp.back (U' := (T13.setTop (mkF m 52 #[.val (.int p0), .val (.int p1), .val (.int p2), .val (.int p3), .val (.int p4), .val (.int ((1 : Int32) + (p4 &&& (3 : Int32)))), .val (.int 0), .unset, .unset, .unset, .unset] [(.int (f_hex p3)), (.int 3), (.ref b2), (.ref b2)]))) st13 ?_
    have vq14 := V11
    obtain ⟨cl14, Ar14, qa14, qs14, qn14, qh14, qg14⟩ := vq14
    have hin14 : ¬ ((3 : Int32) < 0 ∨ cl14.slots.size ≤ ((3 : Int32)).toNatClampNeg) := inb_of qs14 ⟨by decide, by decide⟩
    obtain ⟨T14, h14, X14, e14, W14, st14⟩ := stC X13 hx hZ e13 Ar14 (j := (3 : Int32)) hin14 (g := (mkF m 52 #[.val (.int p0), .val (.int p1), .val (.int p2), .val (.int p3), .val (.int p4), .val (.int ((1 : Int32) + (p4 &&& (3 : Int32)))), .val (.int 0), .unset, .unset, .unset, .unset] [(.int (f_hex p3)), (.int 3), (.ref b2), (.ref b2)])) rfl rfl (hb hby at_52)
    have V14 : Arv Z h14 b2 k2 .char (5 : Int32) [(.int (nar .char (f_hex p0))), (.int (nar .char (f_hex p1))), (.int (nar .char (f_hex p2))), (.int (nar .char (f_hex p3))), (.int 0)] (.int 0) := Arv.set Ar14 qa14 qs14 qn14 qh14 qg14 (fits_nar_char (f_hex p3)) W14 3 rfl (Nat.le_of_ble_eq_true rfl)
    have f15_0 := Nat.le_trans f12_0 (Keep.of_wr W14).1
    have f15_1 := f12_1.wr W14
    have f15_2 := f12_2.wr W14
    have f15_3 := CHv.wr W14 f12_5 f12_3
    have f15_4 := Nat.le_trans f12_4 (Keep.of_wr W14).1
    have f15_5 := Safe.wr W14 f12_5 f12_3 f12_5
    have N14 := Fr.snoc X14 N13 g_b2
    refine Wp.back (U' := (T14.setTop (mkF m 53 #[.val (.int p0), .val (.int p1), .val (.int p2), .val (.int p3), .val (.int p4), .val (.int ((1 : Int32) + (p4 &&& (3 : Int32)))), .val (.int 0), .unset, .unset, .unset, .unset] [(.ref b2)]))) st14 ?_
    refine Wp.back (U' := (T14.setTop (mkF m 57 #[.val (.int p0), .val (.int p1), .val (.int p2), .val (.int p3), .val (.int p4), .val (.int ((1 : Int32) + (p4 &&& (3 : Int32)))), .val (.int 0), .unset, .unset, .unset, .unset] [(.int 10), (.int 4), (.ref b2), (.ref b2)]))) (fun t k => XS.dup X14.here hx rfl (hb hby at_53) rfl rfl (XT.iconstV X14.here hx rfl 4 (hb hby at_54) (by decide) (XT.bipushV X14.here hx rfl 10 (hb hby at_55) (by decide) k))) ?_
    have vq16 := V14
    obtain ⟨cl16, Ar16, qa16, qs16, qn16, qh16, qg16⟩ := vq16
    have hin16 : ¬ ((4 : Int32) < 0 ∨ cl16.slots.size ≤ ((4 : Int32)).toNatClampNeg) := inb_of qs16 ⟨by decide, by decide⟩
    obtain ⟨T16, h16, X16, e16, W16, st16⟩ := stC X14 hx hZ e14 Ar16 (j := (4 : Int32)) hin16 (g := (mkF m 57 #[.val (.int p0), .val (.int p1), .val (.int p2), .val (.int p3), .val (.int p4), .val (.int ((1 : Int32) + (p4 &&& (3 : Int32)))), .val (.int 0), .unset, .unset, .unset, .unset] [(.int 10), (.int 4), (.ref b2), (.ref b2)])) rfl rfl (hb hby at_57)
    have V16 : Arv Z h16 b2 k2 .char (5 : Int32) [(.int (nar .char (f_hex p0))), (.int (nar .char (f_hex p1))), (.int (nar .char (f_hex p2))), (.int (nar .char (f_hex p3))), (.int 10)] (.int 0) := Arv.set Ar16 qa16 qs16 qn16 qh16 qg16 (fits_nar_char (10 : Int32)) W16 4 rfl (Nat.le_of_ble_eq_true rfl)
    have f17_0 := Nat.le_trans f15_0 (Keep.of_wr W16).1
    have f17_1 := f15_1.wr W16
    have f17_2 := f15_2.wr W16
    have f17_3 := CHv.wr W16 f15_5 f15_3
    have f17_4 := Nat.le_trans f15_4 (Keep.of_wr W16).1
    have f17_5 := Safe.wr W16 f15_5 f15_3 f15_5
    have N16 := Fr.snoc X16 N14 g_b2
    refine Wp.back (U' := (T16.setTop (mkF m 58 #[.val (.int p0), .val (.int p1), .val (.int p2), .val (.int p3), .val (.int p4), .val (.int ((1 : Int32) + (p4 &&& (3 : Int32)))), .val (.int 0), .unset, .unset, .unset, .unset] [(.ref b2)]))) st16 ?_
    refine Wp.back (U' := (T16.setTop (mkF m 60 #[.val (.int p0), .val (.int p1), .val (.int p2), .val (.int p3), .val (.int p4), .val (.int ((1 : Int32) + (p4 &&& (3 : Int32)))), .val (.int 0), .val (.ref b2), .unset, .unset, .unset] []))) (fun t k => XS.astore X16.here hx rfl (hb hby at_58) rfl rfl (l' := #[.val (.int p0), .val (.int p1), .val (.int p2), .val (.int p3), .val (.int p4), .val (.int ((1 : Int32) + (p4 &&& (3 : Int32)))), .val (.int 0), .val (.ref b2), .unset, .unset, .unset]) rfl k) ?_
    rcases own_n p4 with hn | hn | hn | hn
    · rw [hn]
      exact own_t1_0 (p0) (p1) (p2) (p3) (p4) (b2) (k2) ((nar .char (f_hex p0))) ((nar .char (f_hex p1))) ((nar .char (f_hex p2))) ((nar .char (f_hex p3))) (cs) (fm) hx hw hby hml hret hlk hZ hown X16 e16 N16 f17_0 hS0 f17_4 f17_1 f17_2 V16 f17_3 g_b2 hcs isr_fm (own_hex _) (own_hex _) (own_hex _) (own_hex _)
    · rw [hn]
      exact own_t2_0 (p0) (p1) (p2) (p3) (p4) (b2) (k2) ((nar .char (f_hex p0))) ((nar .char (f_hex p1))) ((nar .char (f_hex p2))) ((nar .char (f_hex p3))) (cs) (fm) hx hw hby hml hret hlk hZ hown X16 e16 N16 f17_0 hS0 f17_4 f17_1 f17_2 V16 f17_3 g_b2 hcs isr_fm (own_hex _) (own_hex _) (own_hex _) (own_hex _)
    · rw [hn]
      exact own_t3_0 (p0) (p1) (p2) (p3) (p4) (b2) (k2) ((nar .char (f_hex p0))) ((nar .char (f_hex p1))) ((nar .char (f_hex p2))) ((nar .char (f_hex p3))) (cs) (fm) hx hw hby hml hret hlk hZ hown X16 e16 N16 f17_0 hS0 f17_4 f17_1 f17_2 V16 f17_3 g_b2 hcs isr_fm (own_hex _) (own_hex _) (own_hex _) (own_hex _)
    · rw [hn]
      exact own_t4_0 (p0) (p1) (p2) (p3) (p4) (b2) (k2) ((nar .char (f_hex p0))) ((nar .char (f_hex p1))) ((nar .char (f_hex p2))) ((nar .char (f_hex p3))) (cs) (fm) hx hw hby hml hret hlk hZ hown X16 e16 N16 f17_0 hS0 f17_4 f17_1 f17_2 V16 f17_3 g_b2 hcs isr_fm (own_hex _) (own_hex _) (own_hex _) (own_hex _)
  · refine Wp.back (U' := (s₁.setTop (mkF m 23 #[.val (.int p0), .val (.int p1), .val (.int p2), .val (.int p3), .val (.int p4), .val (.int ((1 : Int32) + (p4 &&& (3 : Int32)))), .val (.int 1), .unset, .unset, .unset, .unset] [(.int 5)]))) (fun t k => XS.ifNo X0.here hx rfl (hb hby at_12) rfl ((if0 _ _).trans (feq c12_1).1) (XT.iconstV X0.here hx rfl 1 (hb hby at_15) (by decide) (XS.goto X0.here hx rfl (pc0 := 16) (pc' := 20) rfl (hb hby at_16) (by decide) (by decide) (XS.istore X0.here hx rfl (hb hby at_20) rfl (l' := #[.val (.int p0), .val (.int p1), .val (.int p2), .val (.int p3), .val (.int p4), .val (.int ((1 : Int32) + (p4 &&& (3 : Int32)))), .val (.int 1), .unset, .unset, .unset, .unset]) rfl (XT.iconstV X0.here hx rfl 5 (hb hby at_22) (by decide) k))))) ?_
    obtain ⟨T18, h18, k18, X18, e18, E18, A18, st18⟩ := newP X0 hx hZ (ow hw 0 rfl) e0 (g := (mkF m 23 #[.val (.int p0), .val (.int p1), .val (.int p2), .val (.int p3), .val (.int p4), .val (.int ((1 : Int32) + (p4 &&& (3 : Int32)))), .val (.int 1), .unset, .unset, .unset, .unset] [(.int 5)])) rfl (hb hby at_23) rfl (by decide) (cap := 5) (by decide) (by decide) (by decide) (by decide)
    obtain ⟨b18, g18⟩ : ∃ z, z = h0.size := ⟨_, rfl⟩
    rw [← g18] at A18 st18
    have g_b18 : n0 ≤ b18 := Nat.le_trans Z0 (Nat.le_of_eq g18.symm)
    have sf_b18 : Safe Z consts_1 s.vm h0 b18 := Safe.new (Nat.le_of_eq g18.symm)
    have f19_0 := Nat.le_trans Z0 E18.1
    have f19_1 := PC.ext E18
    have f19_2 := PF.ext E18
    have f19_3 := CHv.ext E18 hCH
    have f19_4 := Nat.le_trans hk0 E18.1
    have f19_5 := Safe.ext E18 hCH sf_b18
    have V18 : Arv Z h18 b18 k18 .char (5 : Int32) [(.int 0), (.int 0), (.int 0), (.int 0), (.int 0)] (.int 0) := (Arv.new A18 (by decide)).pad (pad_rep [] (.int 0) 5)
    refine Wp.back (U' := (T18.setTop (mkF m 25 #[.val (.int p0), .val (.int p1), .val (.int p2), .val (.int p3), .val (.int p4), .val (.int ((1 : Int32) + (p4 &&& (3 : Int32)))), .val (.int 1), .unset, .unset, .unset, .unset] [(.ref b18)]))) st18 ?_
    refine Wp.back (U' := (T18.setTop (mkF m 28 #[.val (.int p0), .val (.int p1), .val (.int p2), .val (.int p3), .val (.int p4), .val (.int ((1 : Int32) + (p4 &&& (3 : Int32)))), .val (.int 1), .unset, .unset, .unset, .unset] [(.int p0), (.int 0), (.ref b18), (.ref b18)]))) (fun t k => XS.dup X18.here hx rfl (hb hby at_25) rfl rfl (XT.iconstV X18.here hx rfl 0 (hb hby at_26) (by decide) (XS.iloadN X18.here hx rfl (hb hby at_27) rfl k))) ?_
    obtain ⟨_, _, ⟨T20, L20, k20, n20⟩, -, X20, ⟨Lc20, hQ20, l20, y20, z20⟩, st20⟩ := Jvm.LawKit.callS X18 hx (y := Y0) hown (mvT hZ (ow hw 1 rfl)) (mvT hZ (ow hw 2 rfl)) (mvT hZ (ow hw 3 rfl)) (mvT hZ (ow hw 4 rfl)) (by decide) (backOf (W := 3) (rm_f_hex l Z a0 hw [] p0 h18 n0 f19_0 ) hZ (ow hw 4 rfl) (ow hw 3 rfl) (by decide) (by decide)) (g := (mkF m 28 #[.val (.int p0), .val (.int p1), .val (.int p2), .val (.int p3), .val (.int p4), .val (.int ((1 : Int32) + (p4 &&& (3 : Int32)))), .val (.int 1), .unset, .unset, .unset, .unset] [(.int p0), (.int 0), (.ref b18), (.ref b18)])) rfl (by rw [hml]; rfl) (argsL := [(.int p0)]) (rest := [(.int 0), (.ref b18), (.ref b18)]) (lenOf pd_15 rfl) rfl (Nat.le_of_eq rfl) (hb hby at_28) (fun _ _ => ⟨rfl, e18, (by decide : 1 + 0 ≤ _), (by decide : 5 + 0 ≤ _)⟩)
    dsimp only [Pt.U, Pt.locs, Pt.cells, Pt.slots] at X20 l20 y20 z20 st20 hQ20
    subst l20 y20 z20
    obtain ⟨rfl, N20q, e20⟩ := hQ20
    have N20 := Fr.app N0 N20q
    refine Wp.back (U' := (T20.setTop (mkF m 31 #[.val (.int p0), .val (.int p1), .val (.int p2), .val (.int p3), .val (.int p4), .val (.int ((1 : Int32) + (p4 &&& (3 : Int32)))), .val (.int 1), .unset, .unset, .unset, .unset] [(.int (f_hex p0)), (.int 0), (.ref b18), (.ref b18)]))) st20 ?_
    have vq21 := V18
    obtain ⟨cl21, Ar21, qa21, qs21, qn21, qh21, qg21⟩ := vq21
    have hin21 : ¬ ((0 : Int32) < 0 ∨ cl21.slots.size ≤ ((0 : Int32)).toNatClampNeg) := inb_of qs21 ⟨by decide, by decide⟩
    obtain ⟨T21, h21, X21, e21, W21, st21⟩ := stC X20 hx hZ e20 Ar21 (j := (0 : Int32)) hin21 (g := (mkF m 31 #[.val (.int p0), .val (.int p1), .val (.int p2), .val (.int p3), .val (.int p4), .val (.int ((1 : Int32) + (p4 &&& (3 : Int32)))), .val (.int 1), .unset, .unset, .unset, .unset] [(.int (f_hex p0)), (.int 0), (.ref b18), (.ref b18)])) rfl rfl (hb hby at_31)
    have V21 : Arv Z h21 b18 k18 .char (5 : Int32) [(.int (nar .char (f_hex p0))), (.int 0), (.int 0), (.int 0), (.int 0)] (.int 0) := Arv.set Ar21 qa21 qs21 qn21 qh21 qg21 (fits_nar_char (f_hex p0)) W21 0 rfl (Nat.le_of_ble_eq_true rfl)
    have f22_0 := Nat.le_trans f19_0 (Keep.of_wr W21).1
    have f22_1 := f19_1.wr W21
    have f22_2 := f19_2.wr W21
    have f22_3 := CHv.wr W21 f19_5 f19_3
    have f22_4 := Nat.le_trans f19_4 (Keep.of_wr W21).1
    have f22_5 := Safe.wr W21 f19_5 f19_3 f19_5
    have N21 := Fr.snoc X21 N20 g_b18
    refine Wp.back (U' := (T21.setTop (mkF m 32 #[.val (.int p0), .val (.int p1), .val (.int p2), .val (.int p3), .val (.int p4), .val (.int ((1 : Int32) + (p4 &&& (3 : Int32)))), .val (.int 1), .unset, .unset, .unset, .unset] [(.ref b18)]))) st21 ?_
    refine Wp.back (U' := (T21.setTop (mkF m 35 #[.val (.int p0), .val (.int p1), .val (.int p2), .val (.int p3), .val (.int p4), .val (.int ((1 : Int32) + (p4 &&& (3 : Int32)))), .val (.int 1), .unset, .unset, .unset, .unset] [(.int p1), (.int 1), (.ref b18), (.ref b18)]))) (fun t k => XS.dup X21.here hx rfl (hb hby at_32) rfl rfl (XT.iconstV X21.here hx rfl 1 (hb hby at_33) (by decide) (XS.iloadN X21.here hx rfl (hb hby at_34) rfl k))) ?_
    obtain ⟨_, _, ⟨T23, L23, k23, n23⟩, -, X23, ⟨Lc23, hQ23, l23, y23, z23⟩, st23⟩ := Jvm.LawKit.callS X21 hx (y := Y0) hown (mvT hZ (ow hw 1 rfl)) (mvT hZ (ow hw 2 rfl)) (mvT hZ (ow hw 3 rfl)) (mvT hZ (ow hw 4 rfl)) (by decide) (backOf (W := 3) (rm_f_hex l Z a0 hw [] p1 h21 n0 f22_0 ) hZ (ow hw 4 rfl) (ow hw 3 rfl) (by decide) (by decide)) (g := (mkF m 35 #[.val (.int p0), .val (.int p1), .val (.int p2), .val (.int p3), .val (.int p4), .val (.int ((1 : Int32) + (p4 &&& (3 : Int32)))), .val (.int 1), .unset, .unset, .unset, .unset] [(.int p1), (.int 1), (.ref b18), (.ref b18)])) rfl (by rw [hml]; rfl) (argsL := [(.int p1)]) (rest := [(.int 1), (.ref b18), (.ref b18)]) (lenOf pd_15 rfl) rfl (Nat.le_of_eq rfl) (hb hby at_35) (fun _ _ => ⟨rfl, e21, (by decide : 1 + 0 ≤ _), (by decide : 5 + 0 ≤ _)⟩)
    dsimp only [Pt.U, Pt.locs, Pt.cells, Pt.slots] at X23 l23 y23 z23 st23 hQ23
    subst l23 y23 z23
    obtain ⟨rfl, N23q, e23⟩ := hQ23
    have N23 := Fr.app N21 N23q
    refine Wp.back (U' := (T23.setTop (mkF m 38 #[.val (.int p0), .val (.int p1), .val (.int p2), .val (.int p3), .val (.int p4), .val (.int ((1 : Int32) + (p4 &&& (3 : Int32)))), .val (.int 1), .unset, .unset, .unset, .unset] [(.int (f_hex p1)), (.int 1), (.ref b18), (.ref b18)]))) st23 ?_
    have vq24 := V21
    obtain ⟨cl24, Ar24, qa24, qs24, qn24, qh24, qg24⟩ := vq24
    have hin24 : ¬ ((1 : Int32) < 0 ∨ cl24.slots.size ≤ ((1 : Int32)).toNatClampNeg) := inb_of qs24 ⟨by decide, by decide⟩
    obtain ⟨T24, h24, X24, e24, W24, st24⟩ := stC X23 hx hZ e23 Ar24 (j := (1 : Int32)) hin24 (g := (mkF m 38 #[.val (.int p0), .val (.int p1), .val (.int p2), .val (.int p3), .val (.int p4), .val (.int ((1 : Int32) + (p4 &&& (3 : Int32)))), .val (.int 1), .unset, .unset, .unset, .unset] [(.int (f_hex p1)), (.int 1), (.ref b18), (.ref b18)])) rfl rfl (hb hby at_38)
    have V24 : Arv Z h24 b18 k18 .char (5 : Int32) [(.int (nar .char (f_hex p0))), (.int (nar .char (f_hex p1))), (.int 0), (.int 0), (.int 0)] (.int 0) := Arv.set Ar24 qa24 qs24 qn24 qh24 qg24 (fits_nar_char (f_hex p1)) W24 1 rfl (Nat.le_of_ble_eq_true rfl)
    have f25_0 := Nat.le_trans f22_0 (Keep.of_wr W24).1
    have f25_1 := f22_1.wr W24
    have f25_2 := f22_2.wr W24
    have f25_3 := CHv.wr W24 f22_5 f22_3
    have f25_4 := Nat.le_trans f22_4 (Keep.of_wr W24).1
    have f25_5 := Safe.wr W24 f22_5 f22_3 f22_5
    have N24 := Fr.snoc X24 N23 g_b18
    refine Wp.back (U' := (T24.setTop (mkF m 39 #[.val (.int p0), .val (.int p1), .val (.int p2), .val (.int p3), .val (.int p4), .val (.int ((1 : Int32) + (p4 &&& (3 : Int32)))), .val (.int 1), .unset, .unset, .unset, .unset] [(.ref b18)]))) st24 ?_
    refine Wp.back (U' := (T24.setTop (mkF m 42 #[.val (.int p0), .val (.int p1), .val (.int p2), .val (.int p3), .val (.int p4), .val (.int ((1 : Int32) + (p4 &&& (3 : Int32)))), .val (.int 1), .unset, .unset, .unset, .unset] [(.int p2), (.int 2), (.ref b18), (.ref b18)]))) (fun t k => XS.dup X24.here hx rfl (hb hby at_39) rfl rfl (XT.iconstV X24.here hx rfl 2 (hb hby at_40) (by decide) (XS.iloadN X24.here hx rfl (hb hby at_41) rfl k))) ?_
    obtain ⟨_, _, ⟨T26, L26, k26, n26⟩, -, X26, ⟨Lc26, hQ26, l26, y26, z26⟩, st26⟩ := Jvm.LawKit.callS X24 hx (y := Y0) hown (mvT hZ (ow hw 1 rfl)) (mvT hZ (ow hw 2 rfl)) (mvT hZ (ow hw 3 rfl)) (mvT hZ (ow hw 4 rfl)) (by decide) (backOf (W := 3) (rm_f_hex l Z a0 hw [] p2 h24 n0 f25_0 ) hZ (ow hw 4 rfl) (ow hw 3 rfl) (by decide) (by decide)) (g := (mkF m 42 #[.val (.int p0), .val (.int p1), .val (.int p2), .val (.int p3), .val (.int p4), .val (.int ((1 : Int32) + (p4 &&& (3 : Int32)))), .val (.int 1), .unset, .unset, .unset, .unset] [(.int p2), (.int 2), (.ref b18), (.ref b18)])) rfl (by rw [hml]; rfl) (argsL := [(.int p2)]) (rest := [(.int 2), (.ref b18), (.ref b18)]) (lenOf pd_15 rfl) rfl (Nat.le_of_eq rfl) (hb hby at_42) (fun _ _ => ⟨rfl, e24, (by decide : 1 + 0 ≤ _), (by decide : 5 + 0 ≤ _)⟩)
    dsimp only [Pt.U, Pt.locs, Pt.cells, Pt.slots] at X26 l26 y26 z26 st26 hQ26
    subst l26 y26 z26
    obtain ⟨rfl, N26q, e26⟩ := hQ26
    have N26 := Fr.app N24 N26q
    refine Wp.back (U' := (T26.setTop (mkF m 45 #[.val (.int p0), .val (.int p1), .val (.int p2), .val (.int p3), .val (.int p4), .val (.int ((1 : Int32) + (p4 &&& (3 : Int32)))), .val (.int 1), .unset, .unset, .unset, .unset] [(.int (f_hex p2)), (.int 2), (.ref b18), (.ref b18)]))) st26 ?_
    have vq27 := V24
    obtain ⟨cl27, Ar27, qa27, qs27, qn27, qh27, qg27⟩ := vq27
    have hin27 : ¬ ((2 : Int32) < 0 ∨ cl27.slots.size ≤ ((2 : Int32)).toNatClampNeg) := inb_of qs27 ⟨by decide, by decide⟩
    obtain ⟨T27, h27, X27, e27, W27, st27⟩ := stC X26 hx hZ e26 Ar27 (j := (2 : Int32)) hin27 (g := (mkF m 45 #[.val (.int p0), .val (.int p1), .val (.int p2), .val (.int p3), .val (.int p4), .val (.int ((1 : Int32) + (p4 &&& (3 : Int32)))), .val (.int 1), .unset, .unset, .unset, .unset] [(.int (f_hex p2)), (.int 2), (.ref b18), (.ref b18)])) rfl rfl (hb hby at_45)
    have V27 : Arv Z h27 b18 k18 .char (5 : Int32) [(.int (nar .char (f_hex p0))), (.int (nar .char (f_hex p1))), (.int (nar .char (f_hex p2))), (.int 0), (.int 0)] (.int 0) := Arv.set Ar27 qa27 qs27 qn27 qh27 qg27 (fits_nar_char (f_hex p2)) W27 2 rfl (Nat.le_of_ble_eq_true rfl)
    have f28_0 := Nat.le_trans f25_0 (Keep.of_wr W27).1
    have f28_1 := f25_1.wr W27
    have f28_2 := f25_2.wr W27
    have f28_3 := CHv.wr W27 f25_5 f25_3
    have f28_4 := Nat.le_trans f25_4 (Keep.of_wr W27).1
    have f28_5 := Safe.wr W27 f25_5 f25_3 f25_5
    have N27 := Fr.snoc X27 N26 g_b18
    refine Wp.back (U' := (T27.setTop (mkF m 46 #[.val (.int p0), .val (.int p1), .val (.int p2), .val (.int p3), .val (.int p4), .val (.int ((1 : Int32) + (p4 &&& (3 : Int32)))), .val (.int 1), .unset, .unset, .unset, .unset] [(.ref b18)]))) st27 ?_
    refine Wp.back (U' := (T27.setTop (mkF m 49 #[.val (.int p0), .val (.int p1), .val (.int p2), .val (.int p3), .val (.int p4), .val (.int ((1 : Int32) + (p4 &&& (3 : Int32)))), .val (.int 1), .unset, .unset, .unset, .unset] [(.int p3), (.int 3), (.ref b18), (.ref b18)]))) (fun t k => XS.dup X27.here hx rfl (hb hby at_46) rfl rfl (XT.iconstV X27.here hx rfl 3 (hb hby at_47) (by decide) (XS.iloadN X27.here hx rfl (hb hby at_48) rfl k))) ?_
    obtain ⟨_, _, ⟨T29, L29, k29, n29⟩, -, X29, ⟨Lc29, hQ29, l29, y29, z29⟩, st29⟩ := Jvm.LawKit.callS X27 hx (y := Y0) hown (mvT hZ (ow hw 1 rfl)) (mvT hZ (ow hw 2 rfl)) (mvT hZ (ow hw 3 rfl)) (mvT hZ (ow hw 4 rfl)) (by decide) (backOf (W := 3) (rm_f_hex l Z a0 hw [] p3 h27 n0 f28_0 ) hZ (ow hw 4 rfl) (ow hw 3 rfl) (by decide) (by decide)) (g := (mkF m 49 #[.val (.int p0), .val (.int p1), .val (.int p2), .val (.int p3), .val (.int p4), .val (.int ((1 : Int32) + (p4 &&& (3 : Int32)))), .val (.int 1), .unset, .unset, .unset, .unset] [(.int p3), (.int 3), (.ref b18), (.ref b18)])) rfl (by rw [hml]; rfl) (argsL := [(.int p3)]) (rest := [(.int 3), (.ref b18), (.ref b18)]) (lenOf pd_15 rfl) rfl (Nat.le_of_eq rfl) (hb hby at_49) (fun _ _ => ⟨rfl, e27, (by decide : 1 + 0 ≤ _), (by decide : 5 + 0 ≤ _)⟩)
    dsimp only [Pt.U, Pt.locs, Pt.cells, Pt.slots] at X29 l29 y29 z29 st29 hQ29
    subst l29 y29 z29
    obtain ⟨rfl, N29q, e29⟩ := hQ29
    have N29 := Fr.app N27 N29q
    refine Wp.back (U' := (T29.setTop (mkF m 52 #[.val (.int p0), .val (.int p1), .val (.int p2), .val (.int p3), .val (.int p4), .val (.int ((1 : Int32) + (p4 &&& (3 : Int32)))), .val (.int 1), .unset, .unset, .unset, .unset] [(.int (f_hex p3)), (.int 3), (.ref b18), (.ref b18)]))) st29 ?_
    have vq30 := V27
    obtain ⟨cl30, Ar30, qa30, qs30, qn30, qh30, qg30⟩ := vq30
    have hin30 : ¬ ((3 : Int32) < 0 ∨ cl30.slots.size ≤ ((3 : Int32)).toNatClampNeg) := inb_of qs30 ⟨by decide, by decide⟩
    obtain ⟨T30, h30, X30, e30, W30, st30⟩ := stC X29 hx hZ e29 Ar30 (j := (3 : Int32)) hin30 (g := (mkF m 52 #[.val (.int p0), .val (.int p1), .val (.int p2), .val (.int p3), .val (.int p4), .val (.int ((1 : Int32) + (p4 &&& (3 : Int32)))), .val (.int 1), .unset, .unset, .unset, .unset] [(.int (f_hex p3)), (.int 3), (.ref b18), (.ref b18)])) rfl rfl (hb hby at_52)
    have V30 : Arv Z h30 b18 k18 .char (5 : Int32) [(.int (nar .char (f_hex p0))), (.int (nar .char (f_hex p1))), (.int (nar .char (f_hex p2))), (.int (nar .char (f_hex p3))), (.int 0)] (.int 0) := Arv.set Ar30 qa30 qs30 qn30 qh30 qg30 (fits_nar_char (f_hex p3)) W30 3 rfl (Nat.le_of_ble_eq_true rfl)
    have f31_0 := Nat.le_trans f28_0 (Keep.of_wr W30).1
    have f31_1 := f28_1.wr W30
    have f31_2 := f28_2.wr W30
    have f31_3 := CHv.wr W30 f28_5 f28_3
    have f31_4 := Nat.le_trans f28_4 (Keep.of_wr W30).1
    have f31_5 := Safe.wr W30 f28_5 f28_3 f28_5
    have N30 := Fr.snoc X30 N29 g_b18
    refine Wp.back (U' := (T30.setTop (mkF m 53 #[.val (.int p0), .val (.int p1), .val (.int p2), .val (.int p3), .val (.int p4), .val (.int ((1 : Int32) + (p4 &&& (3 : Int32)))), .val (.int 1), .unset, .unset, .unset, .unset] [(.ref b18)]))) st30 ?_
    refine Wp.back (U' := (T30.setTop (mkF m 57 #[.val (.int p0), .val (.int p1), .val (.int p2), .val (.int p3), .val (.int p4), .val (.int ((1 : Int32) + (p4 &&& (3 : Int32)))), .val (.int 1), .unset, .unset, .unset, .unset] [(.int 10), (.int 4), (.ref b18), (.ref b18)]))) (fun t k => XS.dup X30.here hx rfl (hb hby at_53) rfl rfl (XT.iconstV X30.here hx rfl 4 (hb hby at_54) (by decide) (XT.bipushV X30.here hx rfl 10 (hb hby at_55) (by decide) k))) ?_
    have vq32 := V30
    obtain ⟨cl32, Ar32, qa32, qs32, qn32, qh32, qg32⟩ := vq32
    have hin32 : ¬ ((4 : Int32) < 0 ∨ cl32.slots.size ≤ ((4 : Int32)).toNatClampNeg) := inb_of qs32 ⟨by decide, by decide⟩
    obtain ⟨T32, h32, X32, e32, W32, st32⟩ := stC X30 hx hZ e30 Ar32 (j := (4 : Int32)) hin32 (g := (mkF m 57 #[.val (.int p0), .val (.int p1), .val (.int p2), .val (.int p3), .val (.int p4), .val (.int ((1 : Int32) + (p4 &&& (3 : Int32)))), .val (.int 1), .unset, .unset, .unset, .unset] [(.int 10), (.int 4), (.ref b18), (.ref b18)])) rfl rfl (hb hby at_57)
    have V32 : Arv Z h32 b18 k18 .char (5 : Int32) [(.int (nar .char (f_hex p0))), (.int (nar .char (f_hex p1))), (.int (nar .char (f_hex p2))), (.int (nar .char (f_hex p3))), (.int 10)] (.int 0) := Arv.set Ar32 qa32 qs32 qn32 qh32 qg32 (fits_nar_char (10 : Int32)) W32 4 rfl (Nat.le_of_ble_eq_true rfl)
    have f33_0 := Nat.le_trans f31_0 (Keep.of_wr W32).1
    have f33_1 := f31_1.wr W32
    have f33_2 := f31_2.wr W32
    have f33_3 := CHv.wr W32 f31_5 f31_3
    have f33_4 := Nat.le_trans f31_4 (Keep.of_wr W32).1
    have f33_5 := Safe.wr W32 f31_5 f31_3 f31_5
    have N32 := Fr.snoc X32 N30 g_b18
    refine Wp.back (U' := (T32.setTop (mkF m 58 #[.val (.int p0), .val (.int p1), .val (.int p2), .val (.int p3), .val (.int p4), .val (.int ((1 : Int32) + (p4 &&& (3 : Int32)))), .val (.int 1), .unset, .unset, .unset, .unset] [(.ref b18)]))) st32 ?_
    refine Wp.back (U' := (T32.setTop (mkF m 60 #[.val (.int p0), .val (.int p1), .val (.int p2), .val (.int p3), .val (.int p4), .val (.int ((1 : Int32) + (p4 &&& (3 : Int32)))), .val (.int 1), .val (.ref b18), .unset, .unset, .unset] []))) (fun t k => XS.astore X32.here hx rfl (hb hby at_58) rfl rfl (l' := #[.val (.int p0), .val (.int p1), .val (.int p2), .val (.int p3), .val (.int p4), .val (.int ((1 : Int32) + (p4 &&& (3 : Int32)))), .val (.int 1), .val (.ref b18), .unset, .unset, .unset]) rfl k) ?_
    rcases own_n p4 with hn | hn | hn | hn
    · rw [hn]
      exact own_t1_1 (p0) (p1) (p2) (p3) (p4) (b18) (k18) ((nar .char (f_hex p0))) ((nar .char (f_hex p1))) ((nar .char (f_hex p2))) ((nar .char (f_hex p3))) (cs) (fm) hx hw hby hml hret hlk hZ hown X32 e32 N32 f33_0 hS0 f33_4 f33_1 f33_2 V32 f33_3 g_b18 hcs isr_fm (own_hex _) (own_hex _) (own_hex _) (own_hex _)
    · rw [hn]
      exact own_t2_1 (p0) (p1) (p2) (p3) (p4) (b18) (k18) ((nar .char (f_hex p0))) ((nar .char (f_hex p1))) ((nar .char (f_hex p2))) ((nar .char (f_hex p3))) (cs) (fm) hx hw hby hml hret hlk hZ hown X32 e32 N32 f33_0 hS0 f33_4 f33_1 f33_2 V32 f33_3 g_b18 hcs isr_fm (own_hex _) (own_hex _) (own_hex _) (own_hex _)
    · rw [hn]
      exact own_t3_1 (p0) (p1) (p2) (p3) (p4) (b18) (k18) ((nar .char (f_hex p0))) ((nar .char (f_hex p1))) ((nar .char (f_hex p2))) ((nar .char (f_hex p3))) (cs) (fm) hx hw hby hml hret hlk hZ hown X32 e32 N32 f33_0 hS0 f33_4 f33_1 f33_2 V32 f33_3 g_b18 hcs isr_fm (own_hex _) (own_hex _) (own_hex _) (own_hex _)
    · rw [hn]
      exact own_t4_1 (p0) (p1) (p2) (p3) (p4) (b18) (k18) ((nar .char (f_hex p0))) ((nar .char (f_hex p1))) ((nar .char (f_hex p2))) ((nar .char (f_hex p3))) (cs) (fm) hx hw hby hml hret hlk hZ hown X32 e32 N32 f33_0 hS0 f33_4 f33_1 f33_2 V32 f33_3 g_b18 hcs isr_fm (own_hex _) (own_hex _) (own_hex _) (own_hex _)
set_option maxRecDepth 65536 in
set_option maxHeartbeats 40000000 in
theorem comes_1 {Post : Tables → Env → Array Value → State → Outcome → State → Prop} (hpost : ∀ tb e args s v u, (limb_1_1.after args s (.returned v) u = true ∧ limb_1_2.after args s (.returned v) u = true ∧ True) → ReturnedEndW s (.returned v) u (Jvm.fieldLocs frame_1_writes args s ++ Jvm.arrayLocs frame_1_arrays args s ++ Jvm.staticLocs frame_1_statics s) 32 2240 → Post tb e args s (.returned v) u) :
    ArmFor flags0 classFile x code maxLocals ret World_1 tables_1 room_1 Calls_1 rest_1 Pre_1 Post := by
  intro l hfl _ _ p e ha hc hk s m args below hf hA hF happ hP
  obtain ⟨hcalls, hrest, hpre⟩ := hP
  obtain ⟨-, -, -, hnamed, -, -, -, hat⟩ := (Spec.applies_iff hf).mp happ
  obtain ⟨hg, hn⟩ := and_e (Cond.before_iff.mp (show (Jvm.Cond.and given_1 narrow_1).before args s = true from hpre))
  obtain ⟨hg1, hg2⟩ := and_e hg
  obtain ⟨hg21, hg22⟩ := and_e hg2
  obtain ⟨hg221, hg222⟩ := and_e hg22
  obtain ⟨hg2221, hg2222⟩ := and_e hg222
  obtain ⟨hg22221, hg22222⟩ := and_e hg2222
  obtain ⟨w0, w1, w2, w3, w4, rfl⟩ : ∃ w0 w1 w2 w3 w4 : Value, args = #[w0, w1, w2, w3, w4] := by
    have hs : args.size = 5 := by simpa [Cond.value, given_1] using hg1
    obtain ⟨L⟩ := args
    match L, hs with
    | [w0, w1, w2, w3, w4], _ => exact ⟨w0, w1, w2, w3, w4, rfl⟩
  have hw := fun d (hd : d ∈ tables_1) => atoms_spec (ws := Jvm.Cond.code x code maxLocals ret :: tables_1) hat d (List.mem_cons_of_mem _ hd)
  have hfit : Fit s := fun {y c} hc i hi => by
    obtain ⟨ha, rfl⟩ := Array.getElem?_eq_some_iff.mp hc
    have q := List.all_eq_true.mp ((Array.all_eq_true_iff_forall_mem.mp hF) _ (Array.getElem_mem ha)) i (List.mem_range.mpr hi)
    simpa [Array.getElem?_eq_getElem hi] using q
  obtain ⟨hsets, hown0⟩ := atoms_of _ (rest_1_c_eq ▸ (show rest_1_c.before _ s = true from hrest))
  have hr0 := Cond.before_iff.mp hown0
  obtain ⟨i0, ei0⟩ := is_v hg21
  obtain rfl : w0 = (.int i0) := Option.some.inj ei0
  obtain ⟨i1, ei1⟩ := is_v hg221
  obtain rfl : w1 = (.int i1) := Option.some.inj ei1
  obtain ⟨i2, ei2⟩ := is_v hg2221
  obtain rfl : w2 = (.int i2) := Option.some.inj ei2
  obtain ⟨i3, ei3⟩ := is_v hg22221
  obtain rfl : w3 = (.int i3) := Option.some.inj ei3
  obtain ⟨i4, ei4⟩ := is_v hg22222
  obtain rfl : w4 = (.int i4) := Option.some.inj ei4
  obtain ⟨cs, ecs⟩ := is_v (Cond.before_iff.mp (hsets _ (List.mem_of_getElem? (i := 1) rfl)))
  have PC := Sta.start ecs (Or.inl (hsets _ (List.mem_of_getElem? (i := 0) rfl)))
  have hcs : ¬ cs = (0 : Int32) := gotF (Cond.eq_ints ecs rfl) (not_v (Cond.before_iff.mp (hsets _ (List.mem_of_getElem? (i := 2) rfl))))
  obtain ⟨fm, efm, isr_fm⟩ := isR_v (Cond.before_iff.mp (hsets _ (List.mem_of_getElem? (i := 8) rfl)))
  have PF := Sta.start efm (Or.inl (hsets _ (List.mem_of_getElem? (i := 7) rfl)))
  have hCH0 : CHv s consts_1 s.vm s.heap := CHv.start (own_EW hw) hcalls.1 (hsets _ (List.mem_of_getElem? (i := 2) rfl)) (ow hw 27 rfl) (ow hw 10 rfl)
  obtain ⟨n, o, h1, h2, h3, _, L, rfl, ⟨rfl, N⟩, hq⟩ := rm_law l s _ hw tables_1 i0 i1 i2 i3 i4 cs fm s.heap s.heap.size (Nat.le_refl _) PC PF hcs isr_fm p e ha hc hk s m _ below hf ((Spec.applies_iff_loose hf).mp happ).1 ⟨rfl, State.Warmed39.refl s, rfl, hCH0⟩ trivial
  refine ⟨n, _, h1, h2, h3, hpost _ _ _ _ _ _ ⟨Cond.after_iff.mpr rfl, Cond.after_iff.mpr (eq_i res_at (Term.int_eval (1)) rfl), trivial⟩ ⟨hq.1, hq.2.1, hq.2.2.1, (hq.2.2.2.sift fun y hy => Or.inr (N y hy)).mono (by decide) (by decide)⟩⟩
theorem main_1_1 : Claimed_1_1 := comes_1 fun _ _ _ _ _ _ h hF => ⟨h.1, hF⟩
theorem main_1_2 : Claimed_1_2 := comes_1 fun _ _ _ _ _ _ h hF => ⟨h.2.1, hF⟩
end Jvm.Pilot.@@N@@
namespace Jvm.Pilot.@@N@@
open Jvm Jvm.ClassFile Sem Op Lib Jvm.Free Jvm.Stand Jvm.Pilot.@@N@@.Jvm.D
/-! MADE BY PROGRAM (witnessworld.py) out of the Statement's table words and the real class files: 23 classes; the members and pool entries that the words name. The judged class is class 1, her method 1. -/
namespace start1
open Jvm.ClassFile
def u (s : String) : CpInfo := .utf8 (stringToUtf16 s)
/-- a pool by its gaps: so many unusable entries, then the entry; so many at the end -/
def gap : Nat → List CpInfo → List CpInfo
  | 0, r => r
  | n + 1, r => .unusable :: gap n r
def poolList (es : List (Nat × CpInfo)) (last : Nat) : List CpInfo := es.foldr (fun e r => gap e.1 (e.2 :: r)) (gap last [])
def pool (es : List (Nat × CpInfo)) (last : Nat) : Array CpInfo := ⟨poolList es last⟩
def fileOf (pool : Array CpInfo) (this : Nat) (attrs : Array Attribute := #[]) (ms : Array MethodInfo := #[]) (fl : Nat := 33) (sup : Nat := 0) (ifs : Array Nat := #[]) (fds : Array FieldInfo := #[]) : ClassFile where
  minorVersion := 0
  majorVersion := 65
  constantPool := pool
  accessFlags := fl
  thisClass := this
  superClass := sup
  interfaces := ifs
  fields := fds
  methods := ms
  attributes := attrs
def plain (name : String) (sup : Option ClassId) : Class where
  name := name
  kind := .ordinary
  loader := none
  accessFlags := 33
  super := sup
  interfaces := #[]
  cf := none
  fields := #[]
  methods := #[]
  instanceTypes := #[]
  staticTypes := #[]
  resolved := #[]
  callSites := []
  init := .initialized
  statics := none
  mirror := none

def pool0 : Array CpInfo := pool [(5, u "<init>"), (0, u "()V"), (1, .class_ 10), (1, u "java/lang/Object")] 113

def k0c0 : Code := { maxStack := 0, maxLocals := 1, code := object_method_1_code, exceptionTable := #[], attributes := #[] }
def k0m0 : Method := { name := "<init>", desc := "()V", sig := { parameters := [], returnType := none }, accessFlags := 1, code := some k0c0 }
/-- java/lang/Object -/
def k0 : Class := { plain "java/lang/Object" none with
  accessFlags := 33
  interfaces := #[]
  cf := some (fileOf pool0 8 #[] #[{ accessFlags := 1, nameIndex := 5, descriptorIndex := 6, attributes := #[] }] 33 0 #[] #[])
  fields := #[]
  methods := #[k0m0]
  instanceTypes := #[]
  staticTypes := #[]
  resolved := Array.replicate 124 none
  statics := none }

def pool1 : Array CpInfo := pool [(2, .class_ 4), (1, u "java/lang/Object"), (0, u "<init>"), (0, u "()V"), (0, .methodref 8 9), (0, .class_ 10), (0, .nameAndType 11 12), (0, u "com/example/surebit/surebit/input/HexNumberDigitsPinLaw"), (0, u "hex"), (0, u "(I)C"), (0, .methodref 8 14), (0, .nameAndType 15 16), (0, u "take"), (0, u "([CI)Ljava/lang/String;"), (0, .string 18), (0, u "s"), (0, .methodref 20 21), (0, .class_ 22), (0, .nameAndType 23 24), (0, u "com/example/surebit/surebit/input/HexNumber"), (0, u "digits"), (0, u "(Ljava/lang/String;Ljava/lang/String;)Ljava/lang/String;"), (0, .methodref 26 27), (0, .class_ 28), (0, .nameAndType 29 30), (0, u "java/lang/String"), (0, u "equals"), (0, u "(Ljava/lang/Object;)Z"), (0, .integer 2147483647), (0, .methodref 26 33), (0, .nameAndType 5 34), (0, u "([C)V"), (2, u "law"), (0, u "(IIIII)Z")] 8

def k1m0 : Method := { name := "<init>", desc := "()V", sig := { parameters := [], returnType := none }, accessFlags := 2, code := none }
def k1c1 : Code := { maxStack := 4, maxLocals := 11, code := code, exceptionTable := #[], attributes := #[] }
def k1m1 : Method := { name := "law", desc := "(IIIII)Z", sig := { parameters := [.int, .int, .int, .int, .int], returnType := some .boolean }, accessFlags := 9, code := some k1c1 }
def k1c2 : Code := { maxStack := 3, maxLocals := 2, code := method_3_code, exceptionTable := #[], attributes := #[] }
def k1m2 : Method := { name := "hex", desc := "(I)C", sig := { parameters := [.int], returnType := some .char }, accessFlags := 10, code := some k1c2 }
def k1c3 : Code := { maxStack := 7, maxLocals := 2, code := method_4_code, exceptionTable := #[], attributes := #[] }
def k1m3 : Method := { name := "take", desc := "([CI)Ljava/lang/String;", sig := { parameters := [(.array .char), .int], returnType := some (.object "java/lang/String") }, accessFlags := 10, code := some k1c3 }
/-- com/example/surebit/surebit/input/HexNumberDigitsPinLaw -/
def k1 : Class := { plain "com/example/surebit/surebit/input/HexNumberDigitsPinLaw" (some 0) with
  accessFlags := 49
  interfaces := #[]
  cf := some (fileOf pool1 8 #[] #[{ accessFlags := 2, nameIndex := 5, descriptorIndex := 6, attributes := #[] }, { accessFlags := 9, nameIndex := 37, descriptorIndex := 38, attributes := #[] }, { accessFlags := 10, nameIndex := 11, descriptorIndex := 12, attributes := #[] }, { accessFlags := 10, nameIndex := 15, descriptorIndex := 16, attributes := #[] }] 49 2 #[] #[])
  fields := #[]
  methods := #[k1m0, k1m1, k1m2, k1m3]
  instanceTypes := #[]
  staticTypes := #[]
  resolved := Array.replicate 47 none
  statics := none }

def pool2 : Array CpInfo := pool [(1, .class_ 2), (0, u "java/io/Serializable"), (0, .class_ 4), (0, u "java/lang/Object")] 2

/-- java/io/Serializable -/
def k2 : Class := { plain "java/io/Serializable" (some 0) with
  accessFlags := 1537
  interfaces := #[]
  cf := some (fileOf pool2 1 #[] #[] 1537 3 #[] #[])
  fields := #[]
  methods := #[]
  instanceTypes := #[]
  staticTypes := #[]
  resolved := Array.replicate 7 none
  statics := none }

def pool3 : Array CpInfo := pool [(1, .class_ 2), (0, u "java/lang/Comparable"), (0, .class_ 4), (0, u "java/lang/Object")] 7

/-- java/lang/Comparable -/
def k3 : Class := { plain "java/lang/Comparable" (some 0) with
  accessFlags := 1537
  interfaces := #[]
  cf := some (fileOf pool3 1 #[] #[] 1537 3 #[] #[])
  fields := #[]
  methods := #[]
  instanceTypes := #[]
  staticTypes := #[]
  resolved := Array.replicate 12 none
  statics := none }

def pool4 : Array CpInfo := pool [(2, .class_ 4), (1, u "java/lang/CharSequence"), (42, .class_ 48), (0, u "java/lang/CharSequence$1CodePointIterator"), (10, .class_ 60), (0, u "java/lang/CharSequence$1CharIterator"), (5, .class_ 67), (0, u "java/lang/Object")] 63

/-- java/lang/CharSequence -/
def k4 : Class := { plain "java/lang/CharSequence" (some 0) with
  accessFlags := 1537
  interfaces := #[]
  cf := some (fileOf pool4 2 #[.nestMembers #[47, 59]] #[] 1537 66 #[] #[])
  fields := #[]
  methods := #[]
  instanceTypes := #[]
  staticTypes := #[]
  resolved := Array.replicate 131 none
  statics := none }

def pool5 : Array CpInfo := pool [(1, .class_ 2), (0, u "java/lang/constant/Constable"), (0, .class_ 4), (0, u "java/lang/Object")] 6

/-- java/lang/constant/Constable -/
def k5 : Class := { plain "java/lang/constant/Constable" (some 0) with
  accessFlags := 1537
  interfaces := #[]
  cf := some (fileOf pool5 1 #[] #[] 1537 3 #[] #[])
  fields := #[]
  methods := #[]
  instanceTypes := #[]
  staticTypes := #[]
  resolved := Array.replicate 11 none
  statics := none }

def pool6 : Array CpInfo := pool [(1, .class_ 2), (0, u "java/lang/constant/ConstantDesc"), (0, .class_ 4), (0, u "java/lang/Object")] 32

/-- java/lang/constant/ConstantDesc -/
def k6 : Class := { plain "java/lang/constant/ConstantDesc" (some 0) with
  accessFlags := 1537
  interfaces := #[]
  cf := some (fileOf pool6 1 #[] #[] 1537 3 #[] #[])
  fields := #[]
  methods := #[]
  instanceTypes := #[]
  staticTypes := #[]
  resolved := Array.replicate 37 none
  statics := none }

def pool7 : Array CpInfo := pool [(1, .methodref 2 3), (0, .class_ 4), (0, .nameAndType 5 6), (0, u "java/lang/Object"), (0, u "<init>"), (0, u "()V"), (2, .fieldref 10 11), (0, .class_ 12), (0, .nameAndType 13 14), (0, u "java/lang/String"), (0, u "value"), (0, u "[B"), (0, .fieldref 10 16), (0, .nameAndType 17 18), (0, u "coder"), (0, u "B"), (2, u "hash"), (0, u "I"), (2, u "hashIsZero"), (0, u "Z"), (0, .methodref 10 28), (0, .nameAndType 5 29), (0, u "([CIILjava/lang/Void;)V"), (8, .fieldref 10 39), (0, .nameAndType 40 26), (0, u "COMPACT_STRINGS"), (1, .class_ 44), (1, u "java/lang/StringUTF16"), (0, u "compress"), (1, .methodref 42 48), (0, .nameAndType 49 50), (0, u "coderFromArrayLen"), (0, u "([BI)B"), (56, .class_ 109), (1, u "java/lang/StringLatin1"), (32, u "()Z"), (34, .methodref 42 178), (0, .nameAndType 45 179), (0, u "([CII)[B"), (31, u "([BB)V"), (122, u "()I"), (0, .methodref 10 336), (0, .nameAndType 17 337), (0, u "()B"), (25, u "([BI)C"), (12, u "([BI[BII)I"), (14, u "(II)V"), (35, u "(I)C"), (64, .methodref 10 493), (0, .nameAndType 494 142), (0, u "isLatin1"), (0, .methodref 107 496), (0, .nameAndType 497 363), (0, u "charAt"), (3, u "checkIndex"), (3, .methodref 10 506), (0, .nameAndType 507 334), (0, u "length"), (5, u "checkFromToIndex"), (7, .methodref 10 522), (0, .nameAndType 523 524), (0, u "checkBoundsBeginEnd"), (0, u "(III)V"), (16, .methodref 107 542), (0, .nameAndType 543 544), (0, u "equals"), (0, u "([B[B)Z"), (14, .class_ 561), (1, u "jdk/internal/util/ArraysSupport"), (0, u "mismatch"), (10, u "(Ljava/lang/Object;)Z"), (1, .class_ 576), (0, u "java/lang/CharSequence"), (22, u "CASE_INSENSITIVE_ORDER"), (0, u "Ljava/util/Comparator;"), (6, .methodref 559 608), (0, .nameAndType 562 376), (15, .methodref 10 625), (0, .nameAndType 626 627), (0, u "startsWith"), (0, u "(Ljava/lang/String;I)Z"), (55, u "substring"), (0, u "(II)Ljava/lang/String;"), (0, .methodref 107 686), (0, .nameAndType 687 688), (0, u "newString"), (0, u "([BII)Ljava/lang/String;"), (321, u "([C)V"), (42, .fieldref 1054 1055), (0, .class_ 1056), (0, .nameAndType 1057 1058), (0, u "jdk/internal/util/Preconditions"), (0, u "SIOOBE_FORMATTER"), (0, u "Ljava/util/function/BiFunction;"), (0, .methodref 1054 1060), (0, .nameAndType 501 1061), (0, u "(IILjava/util/function/BiFunction;)I"), (0, .methodref 1054 1063), (0, .nameAndType 513 1064), (0, u "(IIILjava/util/function/BiFunction;)I"), (36, u "serialPersistentFields"), (0, u "[Ljava/io/ObjectStreamField;"), (0, .class_ 1104), (0, u "java/lang/String$CaseInsensitiveComparator"), (1, .class_ 1107), (0, u "java/io/Serializable"), (0, .class_ 1109), (0, u "java/lang/Comparable"), (0, .class_ 1111), (0, u "java/lang/constant/Constable"), (0, .class_ 1113), (0, u "java/lang/constant/ConstantDesc"), (2, u "serialVersionUID"), (0, u "J"), (3, u "REPL"), (0, u "C"), (2, u "LATIN1"), (1, u "UTF16"), (129, u "(Ljava/lang/String;)Z"), (14, u "endsWith")] 178

def k7m0 : Method := { name := "<init>", desc := "()V", sig := { parameters := [], returnType := none }, accessFlags := 1, code := none }
def k7c1 : Code := { maxStack := 5, maxLocals := 2, code := jdk_42_method_3_code, exceptionTable := #[], attributes := #[] }
def k7m1 : Method := { name := "<init>", desc := "([C)V", sig := { parameters := [(.array .char)], returnType := none }, accessFlags := 1, code := some k7c1 }
def k7c2 : Code := { maxStack := 2, maxLocals := 1, code := jdk_42_method_54_code, exceptionTable := #[], attributes := #[] }
def k7m2 : Method := { name := "length", desc := "()I", sig := { parameters := [], returnType := some .int }, accessFlags := 1, code := some k7c2 }
def k7c3 : Code := { maxStack := 2, maxLocals := 2, code := jdk_42_method_56_code, exceptionTable := #[], attributes := #[] }
def k7m3 : Method := { name := "charAt", desc := "(I)C", sig := { parameters := [.int], returnType := some .char }, accessFlags := 1, code := some k7c3 }
def k7c4 : Code := { maxStack := 2, maxLocals := 3, code := jdk_42_method_66_code, exceptionTable := #[], attributes := #[] }
def k7m4 : Method := { name := "equals", desc := "(Ljava/lang/Object;)Z", sig := { parameters := [(.object "java/lang/Object")], returnType := some .boolean }, accessFlags := 1, code := some k7c4 }
def k7c5 : Code := { maxStack := 5, maxLocals := 8, code := jdk_42_method_75_code, exceptionTable := #[], attributes := #[] }
def k7m5 : Method := { name := "startsWith", desc := "(Ljava/lang/String;I)Z", sig := { parameters := [(.object "java/lang/String"), .int], returnType := some .boolean }, accessFlags := 1, code := some k7c5 }
def k7c6 : Code := { maxStack := 4, maxLocals := 2, code := jdk_42_method_77_code, exceptionTable := #[], attributes := #[] }
def k7m6 : Method := { name := "endsWith", desc := "(Ljava/lang/String;)Z", sig := { parameters := [(.object "java/lang/String")], returnType := some .boolean }, accessFlags := 1, code := some k7c6 }
def k7c7 : Code := { maxStack := 3, maxLocals := 5, code := jdk_42_method_92_code, exceptionTable := #[], attributes := #[] }
def k7m7 : Method := { name := "substring", desc := "(II)Ljava/lang/String;", sig := { parameters := [.int, .int], returnType := some (.object "java/lang/String") }, accessFlags := 1, code := some k7c7 }
def k7c8 : Code := { maxStack := 4, maxLocals := 6, code := jdk_42_method_149_code, exceptionTable := #[], attributes := #[] }
def k7m8 : Method := { name := "<init>", desc := "([CIILjava/lang/Void;)V", sig := { parameters := [(.array .char), .int, .int, (.object "java/lang/Void")], returnType := none }, accessFlags := 2, code := some k7c8 }
def k7c9 : Code := { maxStack := 2, maxLocals := 3, code := jdk_42_method_151_code, exceptionTable := #[], attributes := #[] }
def k7m9 : Method := { name := "<init>", desc := "([BB)V", sig := { parameters := [(.array .byte), .byte], returnType := none }, accessFlags := 0, code := some k7c9 }
def k7c10 : Code := { maxStack := 1, maxLocals := 1, code := jdk_42_method_152_code, exceptionTable := #[], attributes := #[] }
def k7m10 : Method := { name := "coder", desc := "()B", sig := { parameters := [], returnType := some .byte }, accessFlags := 0, code := some k7c10 }
def k7c11 : Code := { maxStack := 1, maxLocals := 1, code := jdk_42_method_154_code, exceptionTable := #[], attributes := #[] }
def k7m11 : Method := { name := "isLatin1", desc := "()Z", sig := { parameters := [], returnType := some .boolean }, accessFlags := 0, code := some k7c11 }
def k7c12 : Code := { maxStack := 3, maxLocals := 2, code := jdk_42_method_155_code, exceptionTable := #[], attributes := #[] }
def k7m12 : Method := { name := "checkIndex", desc := "(II)V", sig := { parameters := [.int, .int], returnType := none }, accessFlags := 8, code := some k7c12 }
def k7c13 : Code := { maxStack := 4, maxLocals := 3, code := jdk_42_method_158_code, exceptionTable := #[], attributes := #[] }
def k7m13 : Method := { name := "checkBoundsBeginEnd", desc := "(III)V", sig := { parameters := [.int, .int, .int], returnType := none }, accessFlags := 8, code := some k7c13 }
/-- java/lang/String -/
def k7 : Class := { plain "java/lang/String" (some 0) with
  accessFlags := 49
  interfaces := #[2, 3, 4, 5, 6]
  cf := some (fileOf pool7 10 #[.nestMembers #[1103]] #[{ accessFlags := 1, nameIndex := 5, descriptorIndex := 6, attributes := #[] }, { accessFlags := 1, nameIndex := 5, descriptorIndex := 1010, attributes := #[] }, { accessFlags := 1, nameIndex := 507, descriptorIndex := 334, attributes := #[] }, { accessFlags := 1, nameIndex := 497, descriptorIndex := 427, attributes := #[] }, { accessFlags := 1, nameIndex := 543, descriptorIndex := 573, attributes := #[] }, { accessFlags := 1, nameIndex := 626, descriptorIndex := 627, attributes := #[] }, { accessFlags := 1, nameIndex := 1272, descriptorIndex := 1257, attributes := #[] }, { accessFlags := 1, nameIndex := 683, descriptorIndex := 684, attributes := #[] }, { accessFlags := 2, nameIndex := 5, descriptorIndex := 29, attributes := #[] }, { accessFlags := 0, nameIndex := 5, descriptorIndex := 211, attributes := #[] }, { accessFlags := 0, nameIndex := 17, descriptorIndex := 337, attributes := #[] }, { accessFlags := 0, nameIndex := 494, descriptorIndex := 142, attributes := #[] }, { accessFlags := 8, nameIndex := 501, descriptorIndex := 391, attributes := #[] }, { accessFlags := 8, nameIndex := 523, descriptorIndex := 524, attributes := #[] }] 49 2 #[1106, 1108, 575, 1110, 1112] #[{ accessFlags := 18, nameIndex := 13, descriptorIndex := 14, attributes := #[] }, { accessFlags := 18, nameIndex := 17, descriptorIndex := 18, attributes := #[] }, { accessFlags := 2, nameIndex := 21, descriptorIndex := 22, attributes := #[] }, { accessFlags := 2, nameIndex := 25, descriptorIndex := 26, attributes := #[] }, { accessFlags := 26, nameIndex := 1116, descriptorIndex := 1117, attributes := #[] }, { accessFlags := 24, nameIndex := 40, descriptorIndex := 26, attributes := #[] }, { accessFlags := 26, nameIndex := 1101, descriptorIndex := 1102, attributes := #[] }, { accessFlags := 26, nameIndex := 1121, descriptorIndex := 1122, attributes := #[] }, { accessFlags := 25, nameIndex := 599, descriptorIndex := 600, attributes := #[] }, { accessFlags := 24, nameIndex := 1125, descriptorIndex := 18, attributes := #[] }, { accessFlags := 24, nameIndex := 1127, descriptorIndex := 18, attributes := #[] }])
  fields := #[{ name := "value", type := (.array .byte), accessFlags := 18, slot := 0, constantValue := 0 }, { name := "coder", type := .byte, accessFlags := 18, slot := 1, constantValue := 0 }, { name := "hash", type := .int, accessFlags := 2, slot := 2, constantValue := 0 }, { name := "hashIsZero", type := .boolean, accessFlags := 2, slot := 3, constantValue := 0 }, { name := "serialVersionUID", type := .long, accessFlags := 26, slot := 0, constantValue := 0 }, { name := "COMPACT_STRINGS", type := .boolean, accessFlags := 24, slot := 1, constantValue := 0 }, { name := "serialPersistentFields", type := (.array (.object "java/io/ObjectStreamField")), accessFlags := 26, slot := 2, constantValue := 0 }, { name := "REPL", type := .char, accessFlags := 26, slot := 3, constantValue := 0 }, { name := "CASE_INSENSITIVE_ORDER", type := (.object "java/util/Comparator"), accessFlags := 25, slot := 4, constantValue := 0 }, { name := "LATIN1", type := .byte, accessFlags := 24, slot := 5, constantValue := 0 }, { name := "UTF16", type := .byte, accessFlags := 24, slot := 6, constantValue := 0 }]
  methods := #[k7m0, k7m1, k7m2, k7m3, k7m4, k7m5, k7m6, k7m7, k7m8, k7m9, k7m10, k7m11, k7m12, k7m13]
  instanceTypes := #[(.array .byte), .byte, .int, .boolean]
  staticTypes := #[.long, .boolean, (.array (.object "java/io/ObjectStreamField")), .char, (.object "java/util/Comparator"), .byte, .byte]
  resolved := Array.replicate 1451 none
  statics := some 0 }

def pool8 : Array CpInfo := pool [(6, .class_ 8), (1, u "java/lang/Object"), (0, u "<init>"), (0, u "()V"), (1, .class_ 14), (1, u "java/lang/StringUTF16"), (31, u "$assertionsDisabled"), (0, u "Z"), (13, u "HI_BYTE_SHIFT"), (0, u "I"), (2, u "LO_BYTE_SHIFT"), (49, .methodref 12 116), (0, .nameAndType 117 118), (0, u "compress"), (0, u "([CI[BII)I"), (3, u "([CII)[B"), (138, u "coderFromArrayLen"), (0, u "([BI)B"), (106, .class_ 371), (1, u "java/lang/StringUTF16$LinesSpliterator"), (58, u "MAX_LENGTH"), (196, .class_ 628), (0, u "java/lang/StringUTF16$CodePointsSpliterator"), (0, .class_ 630), (0, u "java/lang/StringUTF16$CharsSpliterator")] 4

def k8m0 : Method := { name := "<init>", desc := "()V", sig := { parameters := [], returnType := none }, accessFlags := 0, code := none }
def k8c1 : Code := { maxStack := 2, maxLocals := 2, code := jdk_52_method_15_code, exceptionTable := #[], attributes := #[] }
def k8m1 : Method := { name := "coderFromArrayLen", desc := "([BI)B", sig := { parameters := [(.array .byte), .int], returnType := some .byte }, accessFlags := 8, code := some k8c1 }
def k8c2 : Code := { maxStack := 5, maxLocals := 6, code := jdk_52_method_16_code, exceptionTable := #[], attributes := #[] }
def k8m2 : Method := { name := "compress", desc := "([CII)[B", sig := { parameters := [(.array .char), .int, .int], returnType := some (.array .byte) }, accessFlags := 9, code := some k8c2 }
def k8c3 : Code := { maxStack := 3, maxLocals := 7, code := jdk_52_method_21_code, exceptionTable := #[], attributes := #[] }
def k8m3 : Method := { name := "compress", desc := "([CI[BII)I", sig := { parameters := [(.array .char), .int, (.array .byte), .int, .int], returnType := some .int }, accessFlags := 9, code := some k8c3 }
/-- java/lang/StringUTF16 -/
def k8 : Class := { plain "java/lang/StringUTF16" (some 0) with
  accessFlags := 48
  interfaces := #[]
  cf := some (fileOf pool8 12 #[.nestMembers #[627, 629, 369]] #[{ accessFlags := 0, nameIndex := 9, descriptorIndex := 10, attributes := #[] }, { accessFlags := 8, nameIndex := 261, descriptorIndex := 262, attributes := #[] }, { accessFlags := 9, nameIndex := 117, descriptorIndex := 122, attributes := #[] }, { accessFlags := 9, nameIndex := 117, descriptorIndex := 118, attributes := #[] }] 48 6 #[] #[{ accessFlags := 26, nameIndex := 61, descriptorIndex := 62, attributes := #[] }, { accessFlags := 26, nameIndex := 65, descriptorIndex := 62, attributes := #[] }, { accessFlags := 24, nameIndex := 430, descriptorIndex := 62, attributes := #[] }, { accessFlags := 4120, nameIndex := 46, descriptorIndex := 47, attributes := #[] }])
  fields := #[{ name := "HI_BYTE_SHIFT", type := .int, accessFlags := 26, slot := 0, constantValue := 0 }, { name := "LO_BYTE_SHIFT", type := .int, accessFlags := 26, slot := 1, constantValue := 0 }, { name := "MAX_LENGTH", type := .int, accessFlags := 24, slot := 2, constantValue := 0 }, { name := "$assertionsDisabled", type := .boolean, accessFlags := 4120, slot := 3, constantValue := 0 }]
  methods := #[k8m0, k8m1, k8m2, k8m3]
  instanceTypes := #[]
  staticTypes := #[.int, .int, .int, .boolean]
  resolved := Array.replicate 635 none
  statics := none }

def pool9 : Array CpInfo := pool [(2, .class_ 4), (1, u "java/lang/Object"), (0, u "<init>"), (0, u "()V"), (3, .class_ 12), (1, u "com/example/surebit/surebit/input/HexNumber"), (1, u "(Ljava/lang/String;Ljava/lang/String;)Ljava/lang/String;"), (3, .string 19), (0, u "\n"), (0, .methodref 21 22), (0, .class_ 23), (0, .nameAndType 24 25), (0, u "java/lang/String"), (0, u "endsWith"), (0, u "(Ljava/lang/String;)Z"), (0, .methodref 21 27), (0, .nameAndType 28 29), (0, u "length"), (0, u "()I"), (9, .methodref 21 40), (0, .nameAndType 41 42), (0, u "charAt"), (0, u "(I)C"), (0, .methodref 10 44), (0, .nameAndType 45 46), (0, u "isHexDigit"), (0, u "(C)Z"), (3, .methodref 21 51), (0, .nameAndType 52 53), (0, u "substring"), (0, u "(II)Ljava/lang/String;"), (27, u "digits"), (7, u "MAX_LENGTH"), (0, u "I")] 47

def k9m0 : Method := { name := "<init>", desc := "()V", sig := { parameters := [], returnType := none }, accessFlags := 2, code := none }
def k9c1 : Code := { maxStack := 5, maxLocals := 4, code := prog_36_method_3_code, exceptionTable := #[], attributes := #[] }
def k9m1 : Method := { name := "digits", desc := "(Ljava/lang/String;Ljava/lang/String;)Ljava/lang/String;", sig := { parameters := [(.object "java/lang/String"), (.object "java/lang/String")], returnType := some (.object "java/lang/String") }, accessFlags := 9, code := some k9c1 }
def k9c2 : Code := { maxStack := 2, maxLocals := 1, code := prog_36_method_5_code, exceptionTable := #[], attributes := #[] }
def k9m2 : Method := { name := "isHexDigit", desc := "(C)Z", sig := { parameters := [.char], returnType := some .boolean }, accessFlags := 10, code := some k9c2 }
/-- com/example/surebit/surebit/input/HexNumber -/
def k9 : Class := { plain "com/example/surebit/surebit/input/HexNumber" (some 0) with
  accessFlags := 49
  interfaces := #[]
  cf := some (fileOf pool9 10 #[] #[{ accessFlags := 2, nameIndex := 5, descriptorIndex := 6, attributes := #[] }, { accessFlags := 9, nameIndex := 81, descriptorIndex := 14, attributes := #[] }, { accessFlags := 10, nameIndex := 45, descriptorIndex := 46, attributes := #[] }] 49 2 #[] #[{ accessFlags := 26, nameIndex := 89, descriptorIndex := 90, attributes := #[] }])
  fields := #[{ name := "MAX_LENGTH", type := .int, accessFlags := 26, slot := 0, constantValue := 0 }]
  methods := #[k9m0, k9m1, k9m2]
  instanceTypes := #[]
  staticTypes := #[.int]
  resolved := Array.replicate 138 none
  statics := none }

def pool10 : Array CpInfo := pool [(9, u "<init>"), (6, .class_ 18), (1, u "java/lang/Object"), (0, u "()V"), (1, .class_ 23), (1, u "jdk/internal/util/ArraysSupport"), (0, u "LOG2_ARRAY_LONG_INDEX_SCALE"), (0, u "I"), (2, u "U"), (0, u "Ljdk/internal/misc/Unsafe;"), (8, u "BIG_ENDIAN"), (0, u "Z"), (8, u "LOG2_BYTE_BIT_SIZE"), (4, u "LOG2_ARRAY_INT_INDEX_SCALE"), (54, u "JLA"), (0, u "Ljdk/internal/access/JavaLangAccess;"), (11, u "LOG2_ARRAY_BOOLEAN_INDEX_SCALE"), (9, u "LOG2_ARRAY_BYTE_INDEX_SCALE"), (5, u "LOG2_ARRAY_CHAR_INDEX_SCALE"), (5, u "LOG2_ARRAY_SHORT_INDEX_SCALE"), (5, u "mismatch"), (12, u "LOG2_ARRAY_FLOAT_INDEX_SCALE"), (24, u "LOG2_ARRAY_DOUBLE_INDEX_SCALE"), (89, u "T_BOOLEAN"), (2, u "T_CHAR"), (1, u "T_FLOAT"), (1, u "T_DOUBLE"), (1, u "T_BYTE"), (1, u "T_SHORT"), (1, u "T_INT"), (1, u "T_LONG"), (1, u "SOFT_MAX_ARRAY_LENGTH"), (42, u "([BI[BII)I")] 40

def k10m0 : Method := { name := "<init>", desc := "()V", sig := { parameters := [], returnType := none }, accessFlags := 2, code := none }
def k10c1 : Code := { maxStack := 8, maxLocals := 8, code := jdk_48_method_14_code, exceptionTable := #[], attributes := #[] }
def k10m1 : Method := { name := "mismatch", desc := "([BI[BII)I", sig := { parameters := [(.array .byte), .int, (.array .byte), .int, .int], returnType := some .int }, accessFlags := 9, code := some k10c1 }
/-- jdk/internal/util/ArraysSupport -/
def k10 : Class := { plain "jdk/internal/util/ArraysSupport" (some 0) with
  accessFlags := 33
  interfaces := #[]
  cf := some (fileOf pool10 21 #[] #[{ accessFlags := 2, nameIndex := 9, descriptorIndex := 19, attributes := #[] }, { accessFlags := 9, nameIndex := 149, descriptorIndex := 337, attributes := #[] }] 33 16 #[] #[{ accessFlags := 24, nameIndex := 28, descriptorIndex := 29, attributes := #[] }, { accessFlags := 26, nameIndex := 38, descriptorIndex := 39, attributes := #[] }, { accessFlags := 25, nameIndex := 121, descriptorIndex := 25, attributes := #[] }, { accessFlags := 25, nameIndex := 131, descriptorIndex := 25, attributes := #[] }, { accessFlags := 25, nameIndex := 137, descriptorIndex := 25, attributes := #[] }, { accessFlags := 25, nameIndex := 143, descriptorIndex := 25, attributes := #[] }, { accessFlags := 25, nameIndex := 53, descriptorIndex := 25, attributes := #[] }, { accessFlags := 25, nameIndex := 24, descriptorIndex := 25, attributes := #[] }, { accessFlags := 25, nameIndex := 162, descriptorIndex := 25, attributes := #[] }, { accessFlags := 25, nameIndex := 187, descriptorIndex := 25, attributes := #[] }, { accessFlags := 26, nameIndex := 48, descriptorIndex := 25, attributes := #[] }, { accessFlags := 25, nameIndex := 277, descriptorIndex := 25, attributes := #[] }, { accessFlags := 25, nameIndex := 280, descriptorIndex := 25, attributes := #[] }, { accessFlags := 25, nameIndex := 282, descriptorIndex := 25, attributes := #[] }, { accessFlags := 25, nameIndex := 284, descriptorIndex := 25, attributes := #[] }, { accessFlags := 25, nameIndex := 286, descriptorIndex := 25, attributes := #[] }, { accessFlags := 25, nameIndex := 288, descriptorIndex := 25, attributes := #[] }, { accessFlags := 25, nameIndex := 290, descriptorIndex := 25, attributes := #[] }, { accessFlags := 25, nameIndex := 292, descriptorIndex := 25, attributes := #[] }, { accessFlags := 26, nameIndex := 108, descriptorIndex := 109, attributes := #[] }, { accessFlags := 25, nameIndex := 294, descriptorIndex := 25, attributes := #[] }])
  fields := #[{ name := "U", type := (.object "jdk/internal/misc/Unsafe"), accessFlags := 24, slot := 0, constantValue := 0 }, { name := "BIG_ENDIAN", type := .boolean, accessFlags := 26, slot := 1, constantValue := 0 }, { name := "LOG2_ARRAY_BOOLEAN_INDEX_SCALE", type := .int, accessFlags := 25, slot := 2, constantValue := 0 }, { name := "LOG2_ARRAY_BYTE_INDEX_SCALE", type := .int, accessFlags := 25, slot := 3, constantValue := 0 }, { name := "LOG2_ARRAY_CHAR_INDEX_SCALE", type := .int, accessFlags := 25, slot := 4, constantValue := 0 }, { name := "LOG2_ARRAY_SHORT_INDEX_SCALE", type := .int, accessFlags := 25, slot := 5, constantValue := 0 }, { name := "LOG2_ARRAY_INT_INDEX_SCALE", type := .int, accessFlags := 25, slot := 6, constantValue := 0 }, { name := "LOG2_ARRAY_LONG_INDEX_SCALE", type := .int, accessFlags := 25, slot := 7, constantValue := 0 }, { name := "LOG2_ARRAY_FLOAT_INDEX_SCALE", type := .int, accessFlags := 25, slot := 8, constantValue := 0 }, { name := "LOG2_ARRAY_DOUBLE_INDEX_SCALE", type := .int, accessFlags := 25, slot := 9, constantValue := 0 }, { name := "LOG2_BYTE_BIT_SIZE", type := .int, accessFlags := 26, slot := 10, constantValue := 0 }, { name := "T_BOOLEAN", type := .int, accessFlags := 25, slot := 11, constantValue := 0 }, { name := "T_CHAR", type := .int, accessFlags := 25, slot := 12, constantValue := 0 }, { name := "T_FLOAT", type := .int, accessFlags := 25, slot := 13, constantValue := 0 }, { name := "T_DOUBLE", type := .int, accessFlags := 25, slot := 14, constantValue := 0 }, { name := "T_BYTE", type := .int, accessFlags := 25, slot := 15, constantValue := 0 }, { name := "T_SHORT", type := .int, accessFlags := 25, slot := 16, constantValue := 0 }, { name := "T_INT", type := .int, accessFlags := 25, slot := 17, constantValue := 0 }, { name := "T_LONG", type := .int, accessFlags := 25, slot := 18, constantValue := 0 }, { name := "JLA", type := (.object "jdk/internal/access/JavaLangAccess"), accessFlags := 26, slot := 19, constantValue := 0 }, { name := "SOFT_MAX_ARRAY_LENGTH", type := .int, accessFlags := 25, slot := 20, constantValue := 0 }]
  methods := #[k10m0, k10m1]
  instanceTypes := #[]
  staticTypes := #[(.object "jdk/internal/misc/Unsafe"), .boolean, .int, .int, .int, .int, .int, .int, .int, .int, .int, .int, .int, .int, .int, .int, .int, .int, .int, (.object "jdk/internal/access/JavaLangAccess"), .int]
  resolved := Array.replicate 378 none
  statics := none }

def pool11 : Array CpInfo := pool [(1, .class_ 2), (0, u "java/lang/String"), (1, .class_ 6), (1, u "java/lang/Object"), (0, u "<init>"), (0, u "()V"), (0, .methodref 1 10), (0, .nameAndType 11 12), (0, u "checkIndex"), (0, u "(II)V"), (1, .class_ 16), (1, u "java/lang/StringLatin1"), (36, u "([BI)C"), (58, .methodref 1 113), (0, .nameAndType 7 114), (0, u "([BB)V"), (6, u "$assertionsDisabled"), (0, u "Z"), (8, .class_ 133), (1, u "java/util/Arrays"), (62, u "newString"), (0, u "([BII)Ljava/lang/String;"), (23, .class_ 223), (1, u "java/lang/StringLatin1$LinesSpliterator"), (8, .methodref 131 233), (0, .nameAndType 234 235), (0, u "copyOfRange"), (0, u "([BII)[B"), (16, u "charAt"), (28, u "equals"), (0, u "([B[B)Z"), (107, .class_ 391), (0, u "java/lang/StringLatin1$CharsSpliterator")] 3

def k11m0 : Method := { name := "<init>", desc := "()V", sig := { parameters := [], returnType := none }, accessFlags := 0, code := none }
def k11c1 : Code := { maxStack := 2, maxLocals := 2, code := jdk_43_method_2_code, exceptionTable := #[], attributes := #[] }
def k11m1 : Method := { name := "charAt", desc := "([BI)C", sig := { parameters := [(.array .byte), .int], returnType := some .char }, accessFlags := 9, code := some k11c1 }
def k11c2 : Code := { maxStack := 3, maxLocals := 3, code := jdk_43_method_13_code, exceptionTable := #[], attributes := #[] }
def k11m2 : Method := { name := "equals", desc := "([B[B)Z", sig := { parameters := [(.array .byte), (.array .byte)], returnType := some .boolean }, accessFlags := 9, code := some k11c2 }
def k11c3 : Code := { maxStack := 6, maxLocals := 3, code := jdk_43_method_47_code, exceptionTable := #[], attributes := #[] }
def k11m3 : Method := { name := "newString", desc := "([BII)Ljava/lang/String;", sig := { parameters := [(.array .byte), .int, .int], returnType := some (.object "java/lang/String") }, accessFlags := 9, code := some k11c3 }
/-- java/lang/StringLatin1 -/
def k11 : Class := { plain "java/lang/StringLatin1" (some 0) with
  accessFlags := 48
  interfaces := #[]
  cf := some (fileOf pool11 14 #[.nestMembers #[390, 221]] #[{ accessFlags := 0, nameIndex := 7, descriptorIndex := 8, attributes := #[] }, { accessFlags := 9, nameIndex := 252, descriptorIndex := 53, attributes := #[] }, { accessFlags := 9, nameIndex := 281, descriptorIndex := 282, attributes := #[] }, { accessFlags := 9, nameIndex := 196, descriptorIndex := 197, attributes := #[] }] 48 4 #[] #[{ accessFlags := 4120, nameIndex := 121, descriptorIndex := 122, attributes := #[] }])
  fields := #[{ name := "$assertionsDisabled", type := .boolean, accessFlags := 4120, slot := 0, constantValue := 0 }]
  methods := #[k11m0, k11m1, k11m2, k11m3]
  instanceTypes := #[]
  staticTypes := #[.boolean]
  resolved := Array.replicate 395 none
  statics := none }

def pool12 : Array CpInfo := pool [(2, .class_ 4), (1, u "java/lang/Object"), (0, u "<init>"), (0, u "()V"), (17, .class_ 26), (1, u "jdk/internal/util/Preconditions"), (6, u "checkIndex"), (13, u "checkFromToIndex"), (7, .class_ 56), (0, u "jdk/internal/util/Preconditions$4"), (57, .class_ 115), (0, u "jdk/internal/util/Preconditions$1"), (7, u "SIOOBE_FORMATTER"), (0, u "Ljava/util/function/BiFunction;"), (0, .class_ 126), (0, u "jdk/internal/util/Preconditions$2"), (3, u "AIOOBE_FORMATTER"), (0, .class_ 132), (0, u "jdk/internal/util/Preconditions$3"), (3, u "IOOBE_FORMATTER"), (41, u "(IILjava/util/function/BiFunction;)I"), (4, u "(IIILjava/util/function/BiFunction;)I")] 10

def k12m0 : Method := { name := "<init>", desc := "()V", sig := { parameters := [], returnType := none }, accessFlags := 1, code := none }
def k12c1 : Code := { maxStack := 3, maxLocals := 3, code := jdk_41_method_11_code, exceptionTable := #[], attributes := #[] }
def k12m1 : Method := { name := "checkIndex", desc := "(IILjava/util/function/BiFunction;)I", sig := { parameters := [.int, .int, (.object "java/util/function/BiFunction")], returnType := some .int }, accessFlags := 9, code := some k12c1 }
def k12c2 : Code := { maxStack := 4, maxLocals := 4, code := jdk_41_method_12_code, exceptionTable := #[], attributes := #[] }
def k12m2 : Method := { name := "checkFromToIndex", desc := "(IIILjava/util/function/BiFunction;)I", sig := { parameters := [.int, .int, .int, (.object "java/util/function/BiFunction")], returnType := some .int }, accessFlags := 9, code := some k12c2 }
/-- jdk/internal/util/Preconditions -/
def k12 : Class := { plain "jdk/internal/util/Preconditions" (some 0) with
  accessFlags := 33
  interfaces := #[]
  cf := some (fileOf pool12 24 #[.nestMembers #[55, 131, 125, 114]] #[{ accessFlags := 1, nameIndex := 5, descriptorIndex := 6, attributes := #[] }, { accessFlags := 9, nameIndex := 33, descriptorIndex := 178, attributes := #[] }, { accessFlags := 9, nameIndex := 47, descriptorIndex := 183, attributes := #[] }] 33 2 #[] #[{ accessFlags := 25, nameIndex := 123, descriptorIndex := 124, attributes := #[] }, { accessFlags := 25, nameIndex := 130, descriptorIndex := 124, attributes := #[] }, { accessFlags := 25, nameIndex := 136, descriptorIndex := 124, attributes := #[] }])
  fields := #[{ name := "SIOOBE_FORMATTER", type := (.object "java/util/function/BiFunction"), accessFlags := 25, slot := 0, constantValue := 0 }, { name := "AIOOBE_FORMATTER", type := (.object "java/util/function/BiFunction"), accessFlags := 25, slot := 1, constantValue := 0 }, { name := "IOOBE_FORMATTER", type := (.object "java/util/function/BiFunction"), accessFlags := 25, slot := 2, constantValue := 0 }]
  methods := #[k12m0, k12m1, k12m2]
  instanceTypes := #[]
  staticTypes := #[(.object "java/util/function/BiFunction"), (.object "java/util/function/BiFunction"), (.object "java/util/function/BiFunction")]
  resolved := Array.replicate 194 none
  statics := some 1 }

def pool13 : Array CpInfo := pool [(2, .class_ 4), (1, u "java/lang/Object"), (0, u "<init>"), (0, u "()V"), (7, .class_ 16), (1, u "java/util/Arrays"), (57, .class_ 76), (1, u "java/util/Arrays$NaturalOrder"), (36, .class_ 115), (1, u "java/util/Arrays$LegacyMergeSort"), (1, u "Z"), (21, u "copyOfRange"), (10, .methodref 151 152), (0, .class_ 153), (0, .nameAndType 154 155), (0, u "java/lang/System"), (0, u "arraycopy"), (0, u "(Ljava/lang/Object;ILjava/lang/Object;II)V"), (148, .methodref 305 306), (0, .class_ 307), (0, .nameAndType 308 309), (0, u "java/lang/Math"), (0, u "min"), (0, u "(II)I"), (29, .methodref 14 340), (0, .nameAndType 341 342), (0, u "copyOfRangeByte"), (0, u "([BII)[B"), (0, .methodref 14 344), (0, .nameAndType 345 346), (0, u "checkLength"), (0, u "(II)V"), (28, .class_ 376), (0, u "java/util/Arrays$ArrayList"), (68, u "$assertionsDisabled"), (269, u "MIN_ARRAY_SORT_GRAN"), (0, u "I"), (2, u "INSERTIONSORT_THRESHOLD"), (255, .class_ 976), (0, u "java/util/Arrays$ArrayItr")] 52

def k13m0 : Method := { name := "<init>", desc := "()V", sig := { parameters := [], returnType := none }, accessFlags := 2, code := none }
def k13c1 : Code := { maxStack := 4, maxLocals := 2, code := jdk_65_method_131_code, exceptionTable := #[], attributes := #[] }
def k13m1 : Method := { name := "checkLength", desc := "(II)V", sig := { parameters := [.int, .int], returnType := none }, accessFlags := 10, code := some k13c1 }
def k13c2 : Code := { maxStack := 3, maxLocals := 3, code := jdk_65_method_132_code, exceptionTable := #[], attributes := #[] }
def k13m2 : Method := { name := "copyOfRange", desc := "([BII)[B", sig := { parameters := [(.array .byte), .int, .int], returnType := some (.array .byte) }, accessFlags := 9, code := some k13c2 }
def k13c3 : Code := { maxStack := 6, maxLocals := 5, code := jdk_65_method_133_code, exceptionTable := #[], attributes := #[] }
def k13m3 : Method := { name := "copyOfRangeByte", desc := "([BII)[B", sig := { parameters := [(.array .byte), .int, .int], returnType := some (.array .byte) }, accessFlags := 10, code := some k13c3 }
/-- java/util/Arrays -/
def k13 : Class := { plain "java/util/Arrays" (some 0) with
  accessFlags := 49
  interfaces := #[]
  cf := some (fileOf pool13 14 #[.nestMembers #[975, 375, 113, 74]] #[{ accessFlags := 2, nameIndex := 5, descriptorIndex := 6, attributes := #[] }, { accessFlags := 10, nameIndex := 345, descriptorIndex := 346, attributes := #[] }, { accessFlags := 9, nameIndex := 139, descriptorIndex := 342, attributes := #[] }, { accessFlags := 10, nameIndex := 341, descriptorIndex := 342, attributes := #[] }] 49 2 #[] #[{ accessFlags := 26, nameIndex := 715, descriptorIndex := 716, attributes := #[] }, { accessFlags := 26, nameIndex := 719, descriptorIndex := 716, attributes := #[] }, { accessFlags := 4120, nameIndex := 445, descriptorIndex := 117, attributes := #[] }])
  fields := #[{ name := "MIN_ARRAY_SORT_GRAN", type := .int, accessFlags := 26, slot := 0, constantValue := 0 }, { name := "INSERTIONSORT_THRESHOLD", type := .int, accessFlags := 26, slot := 1, constantValue := 0 }, { name := "$assertionsDisabled", type := .boolean, accessFlags := 4120, slot := 2, constantValue := 0 }]
  methods := #[k13m0, k13m1, k13m2, k13m3]
  instanceTypes := #[]
  staticTypes := #[.int, .int, .boolean]
  resolved := Array.replicate 1029 none
  statics := none }

def pool14 : Array CpInfo := pool [(1, .class_ 2), (0, u "java/lang/Math"), (1, .class_ 6), (1, u "java/lang/Object"), (0, u "<init>"), (0, u "()V"), (89, .class_ 100), (1, u "java/lang/Math$RandomNumberGeneratorHolder"), (71, u "negativeZeroFloatBits"), (0, u "J"), (2, u "negativeZeroDoubleBits"), (24, u "min"), (43, u "$assertionsDisabled"), (0, u "Z"), (88, u "(II)I"), (2, u "twoToTheDoubleScaleDown"), (0, u "D"), (4, u "twoToTheDoubleScaleUp"), (9, u "E"), (3, u "PI"), (2, u "TAU"), (2, u "DEGREES_TO_RADIANS"), (0, u "RADIANS_TO_DEGREES")] 94

def k14m0 : Method := { name := "<init>", desc := "()V", sig := { parameters := [], returnType := none }, accessFlags := 2, code := none }
def k14c1 : Code := { maxStack := 2, maxLocals := 2, code := jdk_29_method_69_code, exceptionTable := #[], attributes := #[] }
def k14m1 : Method := { name := "min", desc := "(II)I", sig := { parameters := [.int, .int], returnType := some .int }, accessFlags := 9, code := some k14c1 }
/-- java/lang/Math -/
def k14 : Class := { plain "java/lang/Math" (some 0) with
  accessFlags := 49
  interfaces := #[]
  cf := some (fileOf pool14 1 #[.nestMembers #[98]] #[{ accessFlags := 2, nameIndex := 7, descriptorIndex := 8, attributes := #[] }, { accessFlags := 9, nameIndex := 201, descriptorIndex := 335, attributes := #[] }] 49 4 #[] #[{ accessFlags := 25, nameIndex := 354, descriptorIndex := 339, attributes := #[] }, { accessFlags := 25, nameIndex := 358, descriptorIndex := 339, attributes := #[] }, { accessFlags := 25, nameIndex := 361, descriptorIndex := 339, attributes := #[] }, { accessFlags := 26, nameIndex := 364, descriptorIndex := 339, attributes := #[] }, { accessFlags := 26, nameIndex := 365, descriptorIndex := 339, attributes := #[] }, { accessFlags := 26, nameIndex := 172, descriptorIndex := 173, attributes := #[] }, { accessFlags := 26, nameIndex := 176, descriptorIndex := 173, attributes := #[] }, { accessFlags := 8, nameIndex := 344, descriptorIndex := 339, attributes := #[] }, { accessFlags := 8, nameIndex := 338, descriptorIndex := 339, attributes := #[] }, { accessFlags := 4120, nameIndex := 245, descriptorIndex := 246, attributes := #[] }])
  fields := #[{ name := "E", type := .double, accessFlags := 25, slot := 0, constantValue := 0 }, { name := "PI", type := .double, accessFlags := 25, slot := 1, constantValue := 0 }, { name := "TAU", type := .double, accessFlags := 25, slot := 2, constantValue := 0 }, { name := "DEGREES_TO_RADIANS", type := .double, accessFlags := 26, slot := 3, constantValue := 0 }, { name := "RADIANS_TO_DEGREES", type := .double, accessFlags := 26, slot := 4, constantValue := 0 }, { name := "negativeZeroFloatBits", type := .long, accessFlags := 26, slot := 5, constantValue := 0 }, { name := "negativeZeroDoubleBits", type := .long, accessFlags := 26, slot := 6, constantValue := 0 }, { name := "twoToTheDoubleScaleUp", type := .double, accessFlags := 8, slot := 7, constantValue := 0 }, { name := "twoToTheDoubleScaleDown", type := .double, accessFlags := 8, slot := 8, constantValue := 0 }, { name := "$assertionsDisabled", type := .boolean, accessFlags := 4120, slot := 9, constantValue := 0 }]
  methods := #[k14m0, k14m1]
  instanceTypes := #[]
  staticTypes := #[.double, .double, .double, .double, .double, .long, .long, .double, .double, .boolean]
  resolved := Array.replicate 460 none
  statics := none }

def pool15 : Array CpInfo := pool [(2, .class_ 4), (1, u "java/lang/Object"), (0, u "<init>"), (0, u "()V"), (1, .class_ 10), (1, u "java/lang/System"), (0, u "allowSecurityManager"), (0, u "I"), (16, u "cons"), (0, u "Ljava/io/Console;"), (77, .class_ 110), (1, u "java/lang/System$CallersHolder"), (43, u "initialErrStream"), (0, u "Ljava/io/PrintStream;"), (19, u "security"), (0, u "Ljava/lang/SecurityManager;"), (31, .class_ 209), (0, u "java/lang/System$1"), (7, u "props"), (0, u "Ljava/util/Properties;"), (2, u "lineSeparator"), (0, u "Ljava/lang/String;"), (96, .class_ 321), (1, u "java/lang/System$LoggerFinder"), (5, .class_ 328), (0, u "java/lang/System$Logger"), (67, u "err"), (2, u "out"), (91, u "notSupportedJnuEncoding"), (15, u "in"), (17, u "initialIn"), (0, u "Ljava/io/InputStream;"), (35, u "bootLayer"), (0, u "Ljava/lang/ModuleLayer;"), (99, .class_ 664), (0, u "java/lang/System$2"), (9, u "NEVER"), (2, u "MAYBE"), (49, u "arraycopy"), (0, u "(Ljava/lang/Object;ILjava/lang/Object;II)V"), (72, .class_ 802), (0, u "java/lang/System$Logger$Level")] 31

def k15m0 : Method := { name := "<init>", desc := "()V", sig := { parameters := [], returnType := none }, accessFlags := 2, code := none }
def k15m1 : Method := { name := "arraycopy", desc := "(Ljava/lang/Object;ILjava/lang/Object;II)V", sig := { parameters := [(.object "java/lang/Object"), .int, (.object "java/lang/Object"), .int, .int], returnType := none }, accessFlags := 265, code := none }
/-- java/lang/System -/
def k15 : Class := { plain "java/lang/System" (some 0) with
  accessFlags := 49
  interfaces := #[]
  cf := some (fileOf pool15 8 #[.nestMembers #[319, 327, 801, 108, 663, 208]] #[{ accessFlags := 2, nameIndex := 5, descriptorIndex := 6, attributes := #[] }, { accessFlags := 265, nameIndex := 727, descriptorIndex := 728, attributes := #[] }] 49 2 #[] #[{ accessFlags := 25, nameIndex := 507, descriptorIndex := 526, attributes := #[] }, { accessFlags := 25, nameIndex := 399, descriptorIndex := 155, attributes := #[] }, { accessFlags := 25, nameIndex := 396, descriptorIndex := 155, attributes := #[] }, { accessFlags := 10, nameIndex := 525, descriptorIndex := 526, attributes := #[] }, { accessFlags := 26, nameIndex := 674, descriptorIndex := 12, attributes := #[] }, { accessFlags := 26, nameIndex := 677, descriptorIndex := 12, attributes := #[] }, { accessFlags := 10, nameIndex := 11, descriptorIndex := 12, attributes := #[] }, { accessFlags := 74, nameIndex := 175, descriptorIndex := 176, attributes := #[] }, { accessFlags := 10, nameIndex := 491, descriptorIndex := 222, attributes := #[] }, { accessFlags := 74, nameIndex := 29, descriptorIndex := 30, attributes := #[] }, { accessFlags := 74, nameIndex := 154, descriptorIndex := 155, attributes := #[] }, { accessFlags := 10, nameIndex := 217, descriptorIndex := 218, attributes := #[] }, { accessFlags := 10, nameIndex := 221, descriptorIndex := 222, attributes := #[] }, { accessFlags := 8, nameIndex := 562, descriptorIndex := 563, attributes := #[] }])
  fields := #[{ name := "in", type := (.object "java/io/InputStream"), accessFlags := 25, slot := 0, constantValue := 0 }, { name := "out", type := (.object "java/io/PrintStream"), accessFlags := 25, slot := 1, constantValue := 0 }, { name := "err", type := (.object "java/io/PrintStream"), accessFlags := 25, slot := 2, constantValue := 0 }, { name := "initialIn", type := (.object "java/io/InputStream"), accessFlags := 10, slot := 3, constantValue := 0 }, { name := "NEVER", type := .int, accessFlags := 26, slot := 4, constantValue := 0 }, { name := "MAYBE", type := .int, accessFlags := 26, slot := 5, constantValue := 0 }, { name := "allowSecurityManager", type := .int, accessFlags := 10, slot := 6, constantValue := 0 }, { name := "security", type := (.object "java/lang/SecurityManager"), accessFlags := 74, slot := 7, constantValue := 0 }, { name := "notSupportedJnuEncoding", type := (.object "java/lang/String"), accessFlags := 10, slot := 8, constantValue := 0 }, { name := "cons", type := (.object "java/io/Console"), accessFlags := 74, slot := 9, constantValue := 0 }, { name := "initialErrStream", type := (.object "java/io/PrintStream"), accessFlags := 74, slot := 10, constantValue := 0 }, { name := "props", type := (.object "java/util/Properties"), accessFlags := 10, slot := 11, constantValue := 0 }, { name := "lineSeparator", type := (.object "java/lang/String"), accessFlags := 10, slot := 12, constantValue := 0 }, { name := "bootLayer", type := (.object "java/lang/ModuleLayer"), accessFlags := 8, slot := 13, constantValue := 0 }]
  methods := #[k15m0, k15m1]
  instanceTypes := #[]
  staticTypes := #[(.object "java/io/InputStream"), (.object "java/io/PrintStream"), (.object "java/io/PrintStream"), (.object "java/io/InputStream"), .int, .int, .int, (.object "java/lang/SecurityManager"), (.object "java/lang/String"), (.object "java/io/Console"), (.object "java/io/PrintStream"), (.object "java/util/Properties"), (.object "java/lang/String"), (.object "java/lang/ModuleLayer")]
  resolved := Array.replicate 834 none
  statics := none }

def pool16 : Array CpInfo := pool [(1, u "java/lang/Cloneable"), (0, .class_ 1), (0, u "java/lang/Object"), (0, .class_ 3)] 3

/-- java/lang/Cloneable -/
def k16 : Class := { plain "java/lang/Cloneable" (some 0) with
  accessFlags := 1537
  interfaces := #[]
  cf := some (fileOf pool16 2 #[] #[] 1537 4 #[] #[])
  fields := #[]
  methods := #[]
  instanceTypes := #[]
  staticTypes := #[]
  resolved := Array.replicate 8 none
  statics := none }

/-- the primitive byte -/
def k17 : Class := { plain "byte" none with kind := .primitive 'B', accessFlags := 0x411 }
/-- [B -/
def k18 : Class := { plain "[B" (some 0) with kind := .array 17 .byte, interfaces := #[16, 2], accessFlags := 1041 }

/-- the primitive char -/
def k19 : Class := { plain "char" none with kind := .primitive 'C', accessFlags := 0x411 }
/-- [C -/
def k20 : Class := { plain "[C" (some 0) with kind := .array 19 .char, interfaces := #[16, 2], accessFlags := 1041 }

/-- the primitive int -/
def k21 : Class := { plain "int" none with kind := .primitive 'I', accessFlags := 0x411 }
/-- [I -/
def k22 : Class := { plain "[I" (some 0) with kind := .array 21 .int, interfaces := #[16, 2], accessFlags := 1041 }

def heap : Heap := #[{ cls := 7, slots := #[.long 0, .int 1, .null, .int 0, .null, .int 0, .int 0], vm := .statics 7 },
  { cls := 12, slots := #[.null, .null, .null], vm := .statics 12 }]
def classes : Array Class := #[k0, k1, k2, k3, k4, k5, k6, k7, k8, k9, k10, k11, k12, k13, k14, k15, k16, k17, k18, k19, k20, k21, k22]
def interned : List (Array UInt16 × Addr) := []
def slotsUsed : Nat := 10
def theMethod : MethodId := ⟨1, 1⟩
def args0 : Array Value := #[.int 1, .int 12, .int 20, .int 7, .int 6]
def aboutOver (below : List Frame) : State where
  vm := { classes := classes, interned := interned.toArray }
  heap := heap
  slotsUsed := slotsUsed
  threads := #[{ frames := .invoking theMethod args0 :: below }]
def below0 : List Frame := [.native { method := ⟨0, 0⟩, args := #[] }]
def about1 : State := aboutOver below0
def p0 : Program := .bare "" "" ""
def e0 : Env := launch0.env 0 0 0
theorem w_frames : about1.frames = Frame.invoking theMethod args0 :: below0 := rfl
set_option maxRecDepth 65536 in
theorem w_args : argsFit about1.vm theMethod args0 = true := by decide +kernel
set_option maxRecDepth 65536 in
theorem w_heap : heapFits about1 = true := by decide +kernel
set_option maxRecDepth 65536 in
theorem w_runnable : about1.curStatus? = some .runnable := by decide +kernel
set_option maxRecDepth 65536 in
theorem w_alone : about1.alone = true := by decide +kernel
set_option maxRecDepth 65536 in
theorem w_named : about1.methodNamed? x = some theMethod := by decide +kernel
set_option maxRecDepth 65536 in
theorem w_hears : about1.hears theMethod below0 = true := by decide +kernel
set_option maxRecDepth 65536 in
theorem w_ripe : about1.ripe theMethod args0 below0 = true := by decide +kernel
theorem w_running : about1.status = .running := rfl
set_option maxRecDepth 65536 in
theorem w_room : about1.hasRoom e0.platform room_1 = true :=
  launch0.hasRoom_least _ room_1 (by decide +kernel) (by decide +kernel) (by decide +kernel) (by decide +kernel) (by decide +kernel) (by decide +kernel)
theorem allAtoms_all (ts : List Jvm.Cond) (a : Array Jvm.Value) (st : Jvm.State) : (allAtoms ts).before a st = ts.all (fun c => c.before a st) := by
  induction ts with
  | nil => rfl
  | cons c t ih =>
    show (Jvm.Cond.and c (allAtoms t)).before a st = _
    rw [Jvm.Cond.before_and, ih, List.all_cons]
def words1 : List Jvm.Cond := Jvm.Cond.code x code maxLocals ret :: tables_1
/-- a 'code' word, met by the world's own term for the bytes: nothing is compared byte by byte -/
theorem code_word {y : MethodName} {bytes : ByteArray} {mx : Nat} {rt : Option FieldType} {a : Array Value} {s : State} {m : MethodId} {meth : Method} {c : Code} (h1 : s.methodNamed? y = some m) (h2 : s.vm.method? m = some meth) (h3 : meth.code = some c) (h4 : c.code = bytes)
    (h5 : (c.maxLocals == mx && c.exceptionTable.isEmpty && decide (c.maxStack ≤ mostOperands) && decide (meth.sig.returnType = rt) && !meth.locks && decide (parseMethodDescriptor y.desc = some meth.sig)) = true) : (Jvm.Cond.code y bytes mx rt).before a s = true := by
  simp only [Bool.and_eq_true, beq_iff_eq, Bool.not_eq_true', decide_eq_true_eq] at h5
  obtain ⟨⟨⟨⟨⟨g1, g2⟩, g3⟩, g4⟩, g5⟩, g6⟩ := h5
  simp [Cond.before, Cond.holds, Cond.value, h1, h2, h3, h4, g1, g2, g3, g4, g5, g6]
def isCode : Jvm.Cond → Bool
  | .code _ _ _ _ => true
  | _ => false
theorem all_split {L : List Jvm.Cond} {P : Jvm.Cond → Bool} (h1 : L.all (fun c => isCode c || P c) = true) (h2 : ∀ c ∈ L.filter isCode, P c = true) : L.all P = true := by
  refine List.all_eq_true.mpr fun c hc => ?_
  have h := List.all_eq_true.mp h1 c hc
  rcases Bool.eq_false_or_eq_true (isCode c) with hi | hi
  · exact h2 c (List.mem_filter.mpr ⟨hc, hi⟩)
  · simpa [hi] using h
set_option maxRecDepth 65536 in
theorem w_c0 : (Jvm.Cond.code x code maxLocals ret).before args0 about1 = true := code_word (m := ⟨1, 1⟩) (meth := k1m1) (c := k1c1) (by decide +kernel) rfl rfl rfl (by decide +kernel)
set_option maxRecDepth 65536 in
theorem w_c1 : (Jvm.Cond.code ({ cls := "com/example/surebit/surebit/input/HexNumberDigitsPinLaw", name := "hex", desc := "(I)C" } : Jvm.MethodName) method_3_code (2 : Nat) (Option.some Jvm.ClassFile.FieldType.char)).before args0 about1 = true := code_word (m := ⟨1, 2⟩) (meth := k1m2) (c := k1c2) (by decide +kernel) rfl rfl rfl (by decide +kernel)
set_option maxRecDepth 65536 in
theorem w_c2 : (Jvm.Cond.code ({ cls := "com/example/surebit/surebit/input/HexNumberDigitsPinLaw", name := "take", desc := "([CI)Ljava/lang/String;" } : Jvm.MethodName) method_4_code (2 : Nat) (Option.some (Jvm.ClassFile.FieldType.object "java/lang/String"))).before args0 about1 = true := code_word (m := ⟨1, 3⟩) (meth := k1m3) (c := k1c3) (by decide +kernel) rfl rfl rfl (by decide +kernel)
set_option maxRecDepth 65536 in
theorem w_c3 : (Jvm.Cond.code ({ cls := "java/lang/String", name := "<init>", desc := "([C)V" } : Jvm.MethodName) jdk_42_method_3_code (2 : Nat) (Option.none : Option Jvm.ClassFile.FieldType)).before args0 about1 = true := code_word (m := ⟨7, 1⟩) (meth := k7m1) (c := k7c1) (by decide +kernel) rfl rfl rfl (by decide +kernel)
set_option maxRecDepth 65536 in
theorem w_c4 : (Jvm.Cond.code ({ cls := "java/lang/String", name := "<init>", desc := "([CIILjava/lang/Void;)V" } : Jvm.MethodName) jdk_42_method_149_code (6 : Nat) (Option.none : Option Jvm.ClassFile.FieldType)).before args0 about1 = true := code_word (m := ⟨7, 8⟩) (meth := k7m8) (c := k7c8) (by decide +kernel) rfl rfl rfl (by decide +kernel)
set_option maxRecDepth 65536 in
theorem w_c5 : (Jvm.Cond.code ({ cls := "java/lang/Object", name := "<init>", desc := "()V" } : Jvm.MethodName) object_method_1_code (1 : Nat) (Option.none : Option Jvm.ClassFile.FieldType)).before args0 about1 = true := code_word (m := ⟨0, 0⟩) (meth := k0m0) (c := k0c0) (by decide +kernel) rfl rfl rfl (by decide +kernel)
set_option maxRecDepth 65536 in
theorem w_c6 : (Jvm.Cond.code ({ cls := "java/lang/StringUTF16", name := "compress", desc := "([CII)[B" } : Jvm.MethodName) jdk_52_method_16_code (6 : Nat) (Option.some (Jvm.ClassFile.FieldType.array Jvm.ClassFile.FieldType.byte))).before args0 about1 = true := code_word (m := ⟨8, 2⟩) (meth := k8m2) (c := k8c2) (by decide +kernel) rfl rfl rfl (by decide +kernel)
set_option maxRecDepth 65536 in
theorem w_c7 : (Jvm.Cond.code ({ cls := "java/lang/StringUTF16", name := "compress", desc := "([CI[BII)I" } : Jvm.MethodName) jdk_52_method_21_code (7 : Nat) (Option.some Jvm.ClassFile.FieldType.int)).before args0 about1 = true := code_word (m := ⟨8, 3⟩) (meth := k8m3) (c := k8c3) (by decide +kernel) rfl rfl rfl (by decide +kernel)
set_option maxRecDepth 65536 in
theorem w_c8 : (Jvm.Cond.code ({ cls := "java/lang/StringUTF16", name := "coderFromArrayLen", desc := "([BI)B" } : Jvm.MethodName) jdk_52_method_15_code (2 : Nat) (Option.some Jvm.ClassFile.FieldType.byte)).before args0 about1 = true := code_word (m := ⟨8, 1⟩) (meth := k8m1) (c := k8c1) (by decide +kernel) rfl rfl rfl (by decide +kernel)
set_option maxRecDepth 65536 in
theorem w_c9 : (Jvm.Cond.code ({ cls := "com/example/surebit/surebit/input/HexNumber", name := "digits", desc := "(Ljava/lang/String;Ljava/lang/String;)Ljava/lang/String;" } : Jvm.MethodName) prog_36_method_3_code (4 : Nat) (Option.some (Jvm.ClassFile.FieldType.object "java/lang/String"))).before args0 about1 = true := code_word (m := ⟨9, 1⟩) (meth := k9m1) (c := k9c1) (by decide +kernel) rfl rfl rfl (by decide +kernel)
set_option maxRecDepth 65536 in
theorem w_c10 : (Jvm.Cond.code ({ cls := "java/lang/String", name := "endsWith", desc := "(Ljava/lang/String;)Z" } : Jvm.MethodName) jdk_42_method_77_code (2 : Nat) (Option.some Jvm.ClassFile.FieldType.boolean)).before args0 about1 = true := code_word (m := ⟨7, 6⟩) (meth := k7m6) (c := k7c6) (by decide +kernel) rfl rfl rfl (by decide +kernel)
set_option maxRecDepth 65536 in
theorem w_c11 : (Jvm.Cond.code ({ cls := "java/lang/String", name := "length", desc := "()I" } : Jvm.MethodName) jdk_42_method_54_code (1 : Nat) (Option.some Jvm.ClassFile.FieldType.int)).before args0 about1 = true := code_word (m := ⟨7, 2⟩) (meth := k7m2) (c := k7c2) (by decide +kernel) rfl rfl rfl (by decide +kernel)
set_option maxRecDepth 65536 in
theorem w_c12 : (Jvm.Cond.code ({ cls := "java/lang/String", name := "coder", desc := "()B" } : Jvm.MethodName) jdk_42_method_152_code (1 : Nat) (Option.some Jvm.ClassFile.FieldType.byte)).before args0 about1 = true := code_word (m := ⟨7, 10⟩) (meth := k7m10) (c := k7c10) (by decide +kernel) rfl rfl rfl (by decide +kernel)
set_option maxRecDepth 65536 in
theorem w_c13 : (Jvm.Cond.code ({ cls := "java/lang/String", name := "startsWith", desc := "(Ljava/lang/String;I)Z" } : Jvm.MethodName) jdk_42_method_75_code (8 : Nat) (Option.some Jvm.ClassFile.FieldType.boolean)).before args0 about1 = true := code_word (m := ⟨7, 5⟩) (meth := k7m5) (c := k7c5) (by decide +kernel) rfl rfl rfl (by decide +kernel)
set_option maxRecDepth 65536 in
theorem w_c14 : (Jvm.Cond.code ({ cls := "jdk/internal/util/ArraysSupport", name := "mismatch", desc := "([BI[BII)I" } : Jvm.MethodName) jdk_48_method_14_code (8 : Nat) (Option.some Jvm.ClassFile.FieldType.int)).before args0 about1 = true := code_word (m := ⟨10, 1⟩) (meth := k10m1) (c := k10c1) (by decide +kernel) rfl rfl rfl (by decide +kernel)
set_option maxRecDepth 65536 in
theorem w_c15 : (Jvm.Cond.code ({ cls := "java/lang/String", name := "charAt", desc := "(I)C" } : Jvm.MethodName) jdk_42_method_56_code (2 : Nat) (Option.some Jvm.ClassFile.FieldType.char)).before args0 about1 = true := code_word (m := ⟨7, 3⟩) (meth := k7m3) (c := k7c3) (by decide +kernel) rfl rfl rfl (by decide +kernel)
set_option maxRecDepth 65536 in
theorem w_c16 : (Jvm.Cond.code ({ cls := "java/lang/String", name := "isLatin1", desc := "()Z" } : Jvm.MethodName) jdk_42_method_154_code (1 : Nat) (Option.some Jvm.ClassFile.FieldType.boolean)).before args0 about1 = true := code_word (m := ⟨7, 11⟩) (meth := k7m11) (c := k7c11) (by decide +kernel) rfl rfl rfl (by decide +kernel)
set_option maxRecDepth 65536 in
theorem w_c17 : (Jvm.Cond.code ({ cls := "java/lang/StringLatin1", name := "charAt", desc := "([BI)C" } : Jvm.MethodName) jdk_43_method_2_code (2 : Nat) (Option.some Jvm.ClassFile.FieldType.char)).before args0 about1 = true := code_word (m := ⟨11, 1⟩) (meth := k11m1) (c := k11c1) (by decide +kernel) rfl rfl rfl (by decide +kernel)
set_option maxRecDepth 65536 in
theorem w_c18 : (Jvm.Cond.code ({ cls := "java/lang/String", name := "checkIndex", desc := "(II)V" } : Jvm.MethodName) jdk_42_method_155_code (2 : Nat) (Option.none : Option Jvm.ClassFile.FieldType)).before args0 about1 = true := code_word (m := ⟨7, 12⟩) (meth := k7m12) (c := k7c12) (by decide +kernel) rfl rfl rfl (by decide +kernel)
set_option maxRecDepth 65536 in
theorem w_c19 : (Jvm.Cond.code ({ cls := "jdk/internal/util/Preconditions", name := "checkIndex", desc := "(IILjava/util/function/BiFunction;)I" } : Jvm.MethodName) jdk_41_method_11_code (3 : Nat) (Option.some Jvm.ClassFile.FieldType.int)).before args0 about1 = true := code_word (m := ⟨12, 1⟩) (meth := k12m1) (c := k12c1) (by decide +kernel) rfl rfl rfl (by decide +kernel)
set_option maxRecDepth 65536 in
theorem w_c20 : (Jvm.Cond.code ({ cls := "com/example/surebit/surebit/input/HexNumber", name := "isHexDigit", desc := "(C)Z" } : Jvm.MethodName) prog_36_method_5_code (1 : Nat) (Option.some Jvm.ClassFile.FieldType.boolean)).before args0 about1 = true := code_word (m := ⟨9, 2⟩) (meth := k9m2) (c := k9c2) (by decide +kernel) rfl rfl rfl (by decide +kernel)
set_option maxRecDepth 65536 in
theorem w_c21 : (Jvm.Cond.code ({ cls := "java/lang/String", name := "substring", desc := "(II)Ljava/lang/String;" } : Jvm.MethodName) jdk_42_method_92_code (5 : Nat) (Option.some (Jvm.ClassFile.FieldType.object "java/lang/String"))).before args0 about1 = true := code_word (m := ⟨7, 7⟩) (meth := k7m7) (c := k7c7) (by decide +kernel) rfl rfl rfl (by decide +kernel)
set_option maxRecDepth 65536 in
theorem w_c22 : (Jvm.Cond.code ({ cls := "java/lang/String", name := "checkBoundsBeginEnd", desc := "(III)V" } : Jvm.MethodName) jdk_42_method_158_code (3 : Nat) (Option.none : Option Jvm.ClassFile.FieldType)).before args0 about1 = true := code_word (m := ⟨7, 13⟩) (meth := k7m13) (c := k7c13) (by decide +kernel) rfl rfl rfl (by decide +kernel)
set_option maxRecDepth 65536 in
theorem w_c23 : (Jvm.Cond.code ({ cls := "jdk/internal/util/Preconditions", name := "checkFromToIndex", desc := "(IIILjava/util/function/BiFunction;)I" } : Jvm.MethodName) jdk_41_method_12_code (4 : Nat) (Option.some Jvm.ClassFile.FieldType.int)).before args0 about1 = true := code_word (m := ⟨12, 2⟩) (meth := k12m2) (c := k12c2) (by decide +kernel) rfl rfl rfl (by decide +kernel)
set_option maxRecDepth 65536 in
theorem w_c24 : (Jvm.Cond.code ({ cls := "java/lang/String", name := "equals", desc := "(Ljava/lang/Object;)Z" } : Jvm.MethodName) jdk_42_method_66_code (3 : Nat) (Option.some Jvm.ClassFile.FieldType.boolean)).before args0 about1 = true := code_word (m := ⟨7, 4⟩) (meth := k7m4) (c := k7c4) (by decide +kernel) rfl rfl rfl (by decide +kernel)
set_option maxRecDepth 65536 in
theorem w_c25 : (Jvm.Cond.code ({ cls := "java/lang/StringLatin1", name := "equals", desc := "([B[B)Z" } : Jvm.MethodName) jdk_43_method_13_code (3 : Nat) (Option.some Jvm.ClassFile.FieldType.boolean)).before args0 about1 = true := code_word (m := ⟨11, 2⟩) (meth := k11m2) (c := k11c2) (by decide +kernel) rfl rfl rfl (by decide +kernel)
set_option maxRecDepth 65536 in
theorem w_c26 : (Jvm.Cond.code ({ cls := "java/lang/StringLatin1", name := "newString", desc := "([BII)Ljava/lang/String;" } : Jvm.MethodName) jdk_43_method_47_code (3 : Nat) (Option.some (Jvm.ClassFile.FieldType.object "java/lang/String"))).before args0 about1 = true := code_word (m := ⟨11, 3⟩) (meth := k11m3) (c := k11c3) (by decide +kernel) rfl rfl rfl (by decide +kernel)
set_option maxRecDepth 65536 in
theorem w_c27 : (Jvm.Cond.code ({ cls := "java/util/Arrays", name := "copyOfRange", desc := "([BII)[B" } : Jvm.MethodName) jdk_65_method_132_code (3 : Nat) (Option.some (Jvm.ClassFile.FieldType.array Jvm.ClassFile.FieldType.byte))).before args0 about1 = true := code_word (m := ⟨13, 2⟩) (meth := k13m2) (c := k13c2) (by decide +kernel) rfl rfl rfl (by decide +kernel)
set_option maxRecDepth 65536 in
theorem w_c28 : (Jvm.Cond.code ({ cls := "java/util/Arrays", name := "copyOfRangeByte", desc := "([BII)[B" } : Jvm.MethodName) jdk_65_method_133_code (5 : Nat) (Option.some (Jvm.ClassFile.FieldType.array Jvm.ClassFile.FieldType.byte))).before args0 about1 = true := code_word (m := ⟨13, 3⟩) (meth := k13m3) (c := k13c3) (by decide +kernel) rfl rfl rfl (by decide +kernel)
set_option maxRecDepth 65536 in
theorem w_c29 : (Jvm.Cond.code ({ cls := "java/util/Arrays", name := "checkLength", desc := "(II)V" } : Jvm.MethodName) jdk_65_method_131_code (2 : Nat) (Option.none : Option Jvm.ClassFile.FieldType)).before args0 about1 = true := code_word (m := ⟨13, 1⟩) (meth := k13m1) (c := k13c1) (by decide +kernel) rfl rfl rfl (by decide +kernel)
set_option maxRecDepth 65536 in
theorem w_c30 : (Jvm.Cond.code ({ cls := "java/lang/Math", name := "min", desc := "(II)I" } : Jvm.MethodName) jdk_29_method_69_code (2 : Nat) (Option.some Jvm.ClassFile.FieldType.int)).before args0 about1 = true := code_word (m := ⟨14, 1⟩) (meth := k14m1) (c := k14c1) (by decide +kernel) rfl rfl rfl (by decide +kernel)
set_option maxRecDepth 65536 in
theorem w_c31 : (Jvm.Cond.code ({ cls := "java/lang/String", name := "<init>", desc := "([BB)V" } : Jvm.MethodName) jdk_42_method_151_code (3 : Nat) (Option.none : Option Jvm.ClassFile.FieldType)).before args0 about1 = true := code_word (m := ⟨7, 9⟩) (meth := k7m9) (c := k7c9) (by decide +kernel) rfl rfl rfl (by decide +kernel)
def codes1 : List Jvm.Cond := [Jvm.Cond.code x code maxLocals ret, Jvm.Cond.code ({ cls := "com/example/surebit/surebit/input/HexNumberDigitsPinLaw", name := "hex", desc := "(I)C" } : Jvm.MethodName) method_3_code (2 : Nat) (Option.some Jvm.ClassFile.FieldType.char), Jvm.Cond.code ({ cls := "com/example/surebit/surebit/input/HexNumberDigitsPinLaw", name := "take", desc := "([CI)Ljava/lang/String;" } : Jvm.MethodName) method_4_code (2 : Nat) (Option.some (Jvm.ClassFile.FieldType.object "java/lang/String")), Jvm.Cond.code ({ cls := "java/lang/String", name := "<init>", desc := "([C)V" } : Jvm.MethodName) jdk_42_method_3_code (2 : Nat) (Option.none : Option Jvm.ClassFile.FieldType), Jvm.Cond.code ({ cls := "java/lang/String", name := "<init>", desc := "([CIILjava/lang/Void;)V" } : Jvm.MethodName) jdk_42_method_149_code (6 : Nat) (Option.none : Option Jvm.ClassFile.FieldType), Jvm.Cond.code ({ cls := "java/lang/Object", name := "<init>", desc := "()V" } : Jvm.MethodName) object_method_1_code (1 : Nat) (Option.none : Option Jvm.ClassFile.FieldType), Jvm.Cond.code ({ cls := "java/lang/StringUTF16", name := "compress", desc := "([CII)[B" } : Jvm.MethodName) jdk_52_method_16_code (6 : Nat) (Option.some (Jvm.ClassFile.FieldType.array Jvm.ClassFile.FieldType.byte)), Jvm.Cond.code ({ cls := "java/lang/StringUTF16", name := "compress", desc := "([CI[BII)I" } : Jvm.MethodName) jdk_52_method_21_code (7 : Nat) (Option.some Jvm.ClassFile.FieldType.int), Jvm.Cond.code ({ cls := "java/lang/StringUTF16", name := "coderFromArrayLen", desc := "([BI)B" } : Jvm.MethodName) jdk_52_method_15_code (2 : Nat) (Option.some Jvm.ClassFile.FieldType.byte), Jvm.Cond.code ({ cls := "com/example/surebit/surebit/input/HexNumber", name := "digits", desc := "(Ljava/lang/String;Ljava/lang/String;)Ljava/lang/String;" } : Jvm.MethodName) prog_36_method_3_code (4 : Nat) (Option.some (Jvm.ClassFile.FieldType.object "java/lang/String")), Jvm.Cond.code ({ cls := "java/lang/String", name := "endsWith", desc := "(Ljava/lang/String;)Z" } : Jvm.MethodName) jdk_42_method_77_code (2 : Nat) (Option.some Jvm.ClassFile.FieldType.boolean), Jvm.Cond.code ({ cls := "java/lang/String", name := "length", desc := "()I" } : Jvm.MethodName) jdk_42_method_54_code (1 : Nat) (Option.some Jvm.ClassFile.FieldType.int), Jvm.Cond.code ({ cls := "java/lang/String", name := "coder", desc := "()B" } : Jvm.MethodName) jdk_42_method_152_code (1 : Nat) (Option.some Jvm.ClassFile.FieldType.byte), Jvm.Cond.code ({ cls := "java/lang/String", name := "startsWith", desc := "(Ljava/lang/String;I)Z" } : Jvm.MethodName) jdk_42_method_75_code (8 : Nat) (Option.some Jvm.ClassFile.FieldType.boolean), Jvm.Cond.code ({ cls := "jdk/internal/util/ArraysSupport", name := "mismatch", desc := "([BI[BII)I" } : Jvm.MethodName) jdk_48_method_14_code (8 : Nat) (Option.some Jvm.ClassFile.FieldType.int), Jvm.Cond.code ({ cls := "java/lang/String", name := "charAt", desc := "(I)C" } : Jvm.MethodName) jdk_42_method_56_code (2 : Nat) (Option.some Jvm.ClassFile.FieldType.char), Jvm.Cond.code ({ cls := "java/lang/String", name := "isLatin1", desc := "()Z" } : Jvm.MethodName) jdk_42_method_154_code (1 : Nat) (Option.some Jvm.ClassFile.FieldType.boolean), Jvm.Cond.code ({ cls := "java/lang/StringLatin1", name := "charAt", desc := "([BI)C" } : Jvm.MethodName) jdk_43_method_2_code (2 : Nat) (Option.some Jvm.ClassFile.FieldType.char), Jvm.Cond.code ({ cls := "java/lang/String", name := "checkIndex", desc := "(II)V" } : Jvm.MethodName) jdk_42_method_155_code (2 : Nat) (Option.none : Option Jvm.ClassFile.FieldType), Jvm.Cond.code ({ cls := "jdk/internal/util/Preconditions", name := "checkIndex", desc := "(IILjava/util/function/BiFunction;)I" } : Jvm.MethodName) jdk_41_method_11_code (3 : Nat) (Option.some Jvm.ClassFile.FieldType.int), Jvm.Cond.code ({ cls := "com/example/surebit/surebit/input/HexNumber", name := "isHexDigit", desc := "(C)Z" } : Jvm.MethodName) prog_36_method_5_code (1 : Nat) (Option.some Jvm.ClassFile.FieldType.boolean), Jvm.Cond.code ({ cls := "java/lang/String", name := "substring", desc := "(II)Ljava/lang/String;" } : Jvm.MethodName) jdk_42_method_92_code (5 : Nat) (Option.some (Jvm.ClassFile.FieldType.object "java/lang/String")), Jvm.Cond.code ({ cls := "java/lang/String", name := "checkBoundsBeginEnd", desc := "(III)V" } : Jvm.MethodName) jdk_42_method_158_code (3 : Nat) (Option.none : Option Jvm.ClassFile.FieldType), Jvm.Cond.code ({ cls := "jdk/internal/util/Preconditions", name := "checkFromToIndex", desc := "(IIILjava/util/function/BiFunction;)I" } : Jvm.MethodName) jdk_41_method_12_code (4 : Nat) (Option.some Jvm.ClassFile.FieldType.int), Jvm.Cond.code ({ cls := "java/lang/String", name := "equals", desc := "(Ljava/lang/Object;)Z" } : Jvm.MethodName) jdk_42_method_66_code (3 : Nat) (Option.some Jvm.ClassFile.FieldType.boolean), Jvm.Cond.code ({ cls := "java/lang/StringLatin1", name := "equals", desc := "([B[B)Z" } : Jvm.MethodName) jdk_43_method_13_code (3 : Nat) (Option.some Jvm.ClassFile.FieldType.boolean), Jvm.Cond.code ({ cls := "java/lang/StringLatin1", name := "newString", desc := "([BII)Ljava/lang/String;" } : Jvm.MethodName) jdk_43_method_47_code (3 : Nat) (Option.some (Jvm.ClassFile.FieldType.object "java/lang/String")), Jvm.Cond.code ({ cls := "java/util/Arrays", name := "copyOfRange", desc := "([BII)[B" } : Jvm.MethodName) jdk_65_method_132_code (3 : Nat) (Option.some (Jvm.ClassFile.FieldType.array Jvm.ClassFile.FieldType.byte)), Jvm.Cond.code ({ cls := "java/util/Arrays", name := "copyOfRangeByte", desc := "([BII)[B" } : Jvm.MethodName) jdk_65_method_133_code (5 : Nat) (Option.some (Jvm.ClassFile.FieldType.array Jvm.ClassFile.FieldType.byte)), Jvm.Cond.code ({ cls := "java/util/Arrays", name := "checkLength", desc := "(II)V" } : Jvm.MethodName) jdk_65_method_131_code (2 : Nat) (Option.none : Option Jvm.ClassFile.FieldType), Jvm.Cond.code ({ cls := "java/lang/Math", name := "min", desc := "(II)I" } : Jvm.MethodName) jdk_29_method_69_code (2 : Nat) (Option.some Jvm.ClassFile.FieldType.int), Jvm.Cond.code ({ cls := "java/lang/String", name := "<init>", desc := "([BB)V" } : Jvm.MethodName) jdk_42_method_151_code (3 : Nat) (Option.none : Option Jvm.ClassFile.FieldType)]
set_option maxRecDepth 65536 in
theorem codes_eq : words1.filter isCode = codes1 := rfl
theorem w_codes : ∀ c ∈ words1.filter isCode, c.before args0 about1 = true := by
  rw [codes_eq]
  intro c hc
  simp only [codes1, List.mem_cons, List.not_mem_nil, or_false] at hc
  rcases hc with rfl | rfl | rfl | rfl | rfl | rfl | rfl | rfl | rfl | rfl | rfl | rfl | rfl | rfl | rfl | rfl | rfl | rfl | rfl | rfl | rfl | rfl | rfl | rfl | rfl | rfl | rfl | rfl | rfl | rfl | rfl | rfl
  · exact w_c0
  · exact w_c1
  · exact w_c2
  · exact w_c3
  · exact w_c4
  · exact w_c5
  · exact w_c6
  · exact w_c7
  · exact w_c8
  · exact w_c9
  · exact w_c10
  · exact w_c11
  · exact w_c12
  · exact w_c13
  · exact w_c14
  · exact w_c15
  · exact w_c16
  · exact w_c17
  · exact w_c18
  · exact w_c19
  · exact w_c20
  · exact w_c21
  · exact w_c22
  · exact w_c23
  · exact w_c24
  · exact w_c25
  · exact w_c26
  · exact w_c27
  · exact w_c28
  · exact w_c29
  · exact w_c30
  · exact w_c31
set_option maxRecDepth 65536 in
theorem w_t1 : (words1.take 24).all (fun c => isCode c || c.before args0 about1) = true := by decide +kernel
set_option maxRecDepth 65536 in
theorem w_t2 : ((words1.drop 24).take 24).all (fun c => isCode c || c.before args0 about1) = true := by decide +kernel
set_option maxRecDepth 65536 in
theorem w_t3 : (((words1.drop 24).drop 24).take 24).all (fun c => isCode c || c.before args0 about1) = true := by decide +kernel
set_option maxRecDepth 65536 in
theorem w_t4 : ((((words1.drop 24).drop 24).drop 24).take 24).all (fun c => isCode c || c.before args0 about1) = true := by decide +kernel
set_option maxRecDepth 65536 in
theorem w_t5 : (((((words1.drop 24).drop 24).drop 24).drop 24).take 24).all (fun c => isCode c || c.before args0 about1) = true := by decide +kernel
set_option maxRecDepth 65536 in
theorem w_t6 : (((((words1.drop 24).drop 24).drop 24).drop 24).drop 24).all (fun c => isCode c || c.before args0 about1) = true := by decide +kernel
theorem w_tables : (allAtoms (Jvm.Cond.code x code maxLocals ret :: tables_1)).before args0 about1 = true := by
  rw [allAtoms_all]
  show words1.all (fun c => c.before args0 about1) = true
  refine all_split ?_ w_codes
  rw [← List.take_append_drop 24 words1, List.all_append, w_t1, ← List.take_append_drop 24 (words1.drop 24), List.all_append, w_t2, ← List.take_append_drop 24 ((words1.drop 24).drop 24), List.all_append, w_t3, ← List.take_append_drop 24 (((words1.drop 24).drop 24).drop 24), List.all_append, w_t4, ← List.take_append_drop 24 ((((words1.drop 24).drop 24).drop 24).drop 24), List.all_append, w_t5, w_t6]
  rfl
set_option maxRecDepth 65536 in
theorem w_rest : rest_1_c.before args0 about1 = true := by decide +kernel
set_option maxRecDepth 65536 in
theorem w_case : (Jvm.Cond.and given_1 narrow_1).before args0 about1 = true := by decide +kernel
set_option maxRecDepth 65536 in
theorem w_consts : constsHeld consts_1 about1 := Jvm.Lit.constsHeldB_iff.mp (by decide +kernel)
theorem w_applies : (headSpec (Jvm.Cond.code x code maxLocals ret :: tables_1) room_1).applies x e0.platform about1 = true :=
  (Spec.applies_iff w_frames).mpr ⟨w_running, w_runnable, w_alone, w_named, w_hears, w_ripe, w_room, w_tables⟩
theorem atStart : AtStart classFile x code maxLocals ret World_1 tables_1 room_1 Calls_1 rest_1 Pre_1 launch0 p0 e0 about1 theMethod args0 below0 :=
  ⟨lists_1, trivial, launch0.admits_env _ _ _, launch0.least_env, fairChoices_fair.cas, fairChoices_fair.clock, w_frames, w_args, w_heap, w_applies, ⟨w_consts, trivial⟩, w_rest, w_case⟩
end start1
theorem witness_1 : WitnessClaimed_1 := ⟨start1.p0, start1.e0, start1.about1, start1.theMethod, start1.args0, start1.below0, start1.atStart⟩
end Jvm.Pilot.@@N@@
