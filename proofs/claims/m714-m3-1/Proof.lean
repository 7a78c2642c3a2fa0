import JvmDerived
import JvmDerived.Pilot.@@N@@Statement
import JvmDerived.Pilot.@@N@@Code
set_option linter.unusedVariables false
set_option linter.unusedSimpArgs false
namespace Jvm.RoadKit
open Sem ClassFile Op Lib Jvm.Stand Jvm.Free Jvm.LawKit
section New
variable {p : Program} {l : Launch} {e : Env} {R : Room} {s : State} {m : MethodId} {args : Array Value} {below : List Frame} {meth : Method} {c : Code} {T : State} {locs : List Loc} {cells slots : Nat}
theorem retI (X : Stand p l e R s m args below meth c T locs cells slots) (hx : p.tables.exec = Jvm.exec) {pc : Nat} {Ls : Array Slot} {z : Int32} {rest : List Value} (hret : meth.sig.returnType = some .int) (hd : decode c.code pc = .ok (.ireturn, 1)) {fs : List Frame}
    (hl : ∀ (f : JFrame) (acts : List Action), f.method = m → f.locked = none → f.entered = [] → (doReturn e (T.setTop f) acts (some (.int z))).1 = T.setFrames fs) : Steps p.tables e below (T.setTop (mkF m pc Ls (.int z :: rest))) (T.setFrames fs) := by
  have hm' : T.vm.method? m = some meth := X.method'
  have hn : narrow .int (.int z) = .int z := rfl
  show Steps p.tables e below (T.setTop { method := m, pc := pc, locals := Ls, stack := _ :: rest, locked := none }) _
  jvm_step X.here [X.here.top, hx, hd, hm', hret, hn]
  first | (intro acts; rw [hl _ acts rfl rfl rfl]) | rw [hl _ _ rfl rfl rfl]
  exact Steps.refl _
end New
end Jvm.RoadKit
namespace Jvm.Pilot.@@N@@
open Jvm Jvm.ClassFile Sem Op Lib Jvm.Free Jvm.Stand Jvm.LawKit Jvm.RoadKit Bundle Jvm.Pilot.@@N@@.Jvm.D
def Wp (p : Program) (e : Env) (below : List Frame) (G : Outcome → State → Prop) (U : State) : Prop := ∃ s₂ o, Steps p.tables e below U s₂ ∧ s₂.status = .running ∧ Ended s₂ below o ∧ G o s₂
theorem Wp.back {p : Program} {e : Env} {below : List Frame} {G : Outcome → State → Prop} {U U' : State} (k : ∀ t, Steps p.tables e below U' t → Steps p.tables e below U t) (h : Wp p e below G U') : Wp p e below G U := by
  obtain ⟨s₂, o, h1, h2⟩ := h
  exact ⟨s₂, o, k _ h1, h2⟩
theorem Wp.done {p : Program} {e : Env} {below : List Frame} {G : Outcome → State → Prop} {U t : State} {o : Outcome} (h1 : Steps p.tables e below U t) (h2 : t.status = .running) (h3 : Ended t below o) (h4 : G o t) : Wp p e below G U := ⟨t, o, h1, h2, h3, h4⟩
/-- what a body leaves that writes nothing -/
def QL (n0 : Nat) (v : Option Value) (h : Heap) (L : List Loc) : Prop := v = some (.int 1) ∧ Fr n0 L
def QP (r : Option Value) (h0 : Heap) (n0 : Nat) (v : Option Value) (h : Heap) (L : List Loc) : Prop := v = r ∧ Fr n0 L ∧ h = h0
theorem own_irrefl (x : Int32) : ¬ x < x := by rw [Int32.lt_iff_toInt_lt]; omega
theorem Sta_keep {Z : State} {h h' : Heap} {ws : List Addr} {C n d : String} {v : Value} (F : Sta Z h C n d v) (K : Keep h h' ws) (q : ∀ x ∈ ws, ∃ c : Cell, h[x]? = some c ∧ c.vm.isStatics = false) : Sta Z h' C n d v := by
  obtain ⟨cf, i, k, f, st, cell, h1, h2, h3, h4, h5, h6, r⟩ := F
  refine ⟨cf, i, k, f, st, cell, h1, h2, h3, h4, K.2.1 _ _ h5 (fun hm => ?_), h6, r⟩
  obtain ⟨c, hc, hs⟩ := q _ hm
  rw [h5] at hc
  cases hc
  rw [h6] at hs
  cases hs
theorem Exa_ns {Z : State} {h : Heap} {a : Addr} {C : String} (F : Exa Z h a C) : ∃ c : Cell, h[a]? = some c ∧ c.vm.isStatics = false := by
  obtain ⟨c, k, h1, h2, h3, h4, r⟩ := F
  exact ⟨c, h1, h4⟩
theorem Fld_ns {Z : State} {h : Heap} {a : Addr} {C n d : String} {v : Value} (F : Fld Z h a C n d v) : ∃ c : Cell, h[a]? = some c ∧ c.vm.isStatics = false := by
  obtain ⟨c, cf, k, i, f, h1, h2, h3, h4, h5, r⟩ := F
  exact ⟨c, h1, h5⟩
theorem Arv_ns {Z : State} {h : Heap} {a : Addr} {k : ClassId} {ty : FieldType} {n : Int32} {vs : List Value} {d : Value} (F : Arv Z h a k ty n vs d) : ∃ c : Cell, h[a]? = some c ∧ c.vm.isStatics = false := by
  obtain ⟨c, A, r⟩ := F
  exact ⟨c, A.1, A.plain⟩
theorem Sta_keep0 {Z : State} {h h' : Heap} {C n d : String} {v : Value} (F : Sta Z h C n d v) (K : Keep h h' []) : Sta Z h' C n d v := by
  obtain ⟨cf, i, k, f, st, cell, h1, h2, h3, h4, h5, r⟩ := F
  exact ⟨cf, i, k, f, st, cell, h1, h2, h3, h4, K.2.1 _ _ h5 nin0, r⟩
theorem own_EW {Z : State} {a0 : Array Value} (hw : ∀ d ∈ tables_1, d.before a0 Z = true) : EW Z a0 consts_1 := (EW.cons (hw _ (List.mem_of_getElem? (i := 19) rfl)) (by decide) EW.nil)
theorem own_sub : ∀ d ∈ Bundle.stringAtoms, d ∈ tables_1 := by decide +kernel
theorem own_wS {Z : State} {a0 : Array Value} (hw : ∀ d ∈ tables_1, d.before a0 Z = true) : ∀ d ∈ Bundle.stringAtoms, d.before a0 Z = true := fun d hd => hw d (own_sub d hd)
theorem own_more {p : Program} {l : Launch} {e : Env} {R : Room} {s : State} {m : MethodId} {args : Array Value} {below : List Frame} {meth : Method} {c : Code} {T : State} {locs : List Loc} {cells slots c' s' : Nat} (X : Stand p l e R s m args below meth c T locs cells slots) (h1 : cells ≤ c') (h2 : slots ≤ s') : Stand p l e R s m args below meth c T locs c' s' :=
  ⟨X.admits, X.cas, X.clock, X.frames, X.room, X.hears, X.method, X.code, X.here, X.tail, X.warmed, X.limits, X.bytes, X.same.mono h1 h2⟩
theorem own_safe {Z : State} {EL : List (String × Nat)} {vm : Vm} {h : Heap} {x : Addr} (hal : Z.vm.Alike vm) (E : Exa Z h x "java/lang/String") (F : Fld Z h x "java/lang/String" "value" "[B" .null) : Safe Z EL vm h x := fun B => by
  obtain ⟨p, -, u, a, -, q, -, G, hx⟩ := B
  rcases hx with rfl | rfl
  · have ha : h[q.sa]? = some q.sC := G.ha
    obtain ⟨cS, ⟨⟨s1, s2, s3, ⟨cv, kv, iv, s4, s4'⟩, s5, s6, s7, s8, -⟩, -⟩, -⟩ := G
    obtain ⟨kv', z4⟩ := ff_back (U := Wst Z vm h) hal s4
    obtain ⟨cell, cf, k, i, f, f1, f2, f3, f4, f5, f6, f7⟩ := F
    cases ha.symm.trans f1
    have e := f2.symm.trans z4
    simp only [Option.some.injEq, Prod.mk.injEq] at e
    rw [e.2.2.2, s8] at f7
    cases f7
  · have hd : h[q.sd]? = some q.SA := G.hd
    obtain ⟨cell, k, e1, e2, e3, -, -⟩ := E
    cases hd.symm.trans e1
    obtain ⟨cS, -, -, f, -⟩ := G
    have f : vm.findClass "[B" = some q.SA.cls := f
    rw [hal.findClass] at f
    obtain ⟨k1, q1, q2⟩ := Vm.findClass_spec f
    obtain ⟨k2, q3, q4⟩ := Vm.findClass_spec e2
    cases q1.symm.trans q3
    exact absurd (q2.symm.trans q4) (by decide)
def Q_cp2_1 (Z : State) (ca : Addr) (ba : Addr) (kc : ClassId) (c0 : Int32) (kb : ClassId) (h0 : Heap) (n0 : Nat) (v : Option Value) (h : Heap) (L : List Loc) : Prop := v = some (.int (1 : Int32)) ∧ Fr n0 L ∧ Keep h0 h [ba] ∧ Arv Z h ba kb .byte (1 : Int32) [(.int (nar .byte (c0).toInt8.toInt32))] (.int (0 : Int32))
theorem s1d10_0 : decode jdk_52_method_21_code 0 = .ok (.iconst 0, 1) := by decide +kernel
theorem s1d10_1 : decode jdk_52_method_21_code 1 = .ok (.istore 5, 2) := by decide +kernel
theorem s1d10_3 : decode jdk_52_method_21_code 3 = .ok (.iload 5, 2) := by decide +kernel
theorem s1d10_5 : decode jdk_52_method_21_code 5 = .ok (.iload 4, 2) := by decide +kernel
theorem s1d10_7 : decode jdk_52_method_21_code 7 = .ok (.if_icmp .ge 37, 3) := by decide +kernel
theorem s1d10_10 : decode jdk_52_method_21_code 10 = .ok (.aload_n 0, 1) := by decide +kernel
theorem s1d10_11 : decode jdk_52_method_21_code 11 = .ok (.iload_n 1, 1) := by decide +kernel
theorem s1d10_12 : decode jdk_52_method_21_code 12 = .ok (.caload, 1) := by decide +kernel
theorem s1d10_13 : decode jdk_52_method_21_code 13 = .ok (.istore 6, 2) := by decide +kernel
theorem s1d10_15 : decode jdk_52_method_21_code 15 = .ok (.iload 6, 2) := by decide +kernel
theorem s1d10_17 : decode jdk_52_method_21_code 17 = .ok (.sipush 255, 3) := by decide +kernel
theorem s1d10_20 : decode jdk_52_method_21_code 20 = .ok (.if_icmp .le 6, 3) := by decide +kernel
theorem s1d10_26 : decode jdk_52_method_21_code 26 = .ok (.aload_n 2, 1) := by decide +kernel
theorem s1d10_27 : decode jdk_52_method_21_code 27 = .ok (.iload_n 3, 1) := by decide +kernel
theorem s1d10_28 : decode jdk_52_method_21_code 28 = .ok (.iload 6, 2) := by decide +kernel
theorem s1d10_30 : decode jdk_52_method_21_code 30 = .ok (.i2b, 1) := by decide +kernel
theorem s1d10_31 : decode jdk_52_method_21_code 31 = .ok (.bastore, 1) := by decide +kernel
theorem s1d10_32 : decode jdk_52_method_21_code 32 = .ok (.iinc 1 1, 3) := by decide +kernel
theorem s1d10_35 : decode jdk_52_method_21_code 35 = .ok (.iinc 3 1, 3) := by decide +kernel
theorem s1d10_38 : decode jdk_52_method_21_code 38 = .ok (.iinc 5 1, 3) := by decide +kernel
theorem s1d10_41 : decode jdk_52_method_21_code 41 = .ok (.goto (-38), 3) := by decide +kernel
theorem s1d10_44 : decode jdk_52_method_21_code 44 = .ok (.iload 4, 2) := by decide +kernel
theorem s1d10_46 : decode jdk_52_method_21_code 46 = .ok (.ireturn, 1) := by decide +kernel
theorem s1pn10 : plainName "java/lang/StringUTF16" = true := by first | (simp [plainName, overriddenIn]; done) | decide +kernel
theorem s1ef10 (m : MethodId) (x0 : Addr) (x1 : Int32) (x2 : Addr) (x3 : Int32) (x4 : Int32) : entryFrame m #[(.ref x0), (.int x1), (.ref x2), (.int x3), (.int x4)] 7 = mkF m 0 #[.val (.ref x0), .val (.int x1), .val (.ref x2), .val (.int x3), .val (.int x4), .unset, .unset] [] := by first | (simp [entryFrame, mkF, argsToLocals, Value.category]; done) | rfl
set_option maxRecDepth 65536 in
set_option maxHeartbeats 40000000 in
theorem rm_cp2_1 (l : Launch) (Z : State) (a0 : Array Value) (hw : ∀ d ∈ tables_1, d.before a0 Z = true) (ws : List Jvm.Cond) (ca : Addr) (ba : Addr) (kc : ClassId) (c0 : Int32) (kb : ClassId) (h0 : Heap) (n0 : Nat) (Z0 : n0 ≤ h0.size) (H0 : Arv Z h0 ca kc .char (1 : Int32) [(.int c0)] (.int (0 : Int32))) (H1 : Arv Z h0 ba kb .byte (1 : Int32) [(.int (0 : Int32))] (.int (0 : Int32))) (g_ba : n0 ≤ ba) (ne_ca_ba : ca ≠ ba) (h2550 : ¬ (255 : Int32) < c0) :
    MetFree l (⟨"java/lang/StringUTF16", "compress", "([CI[BII)I"⟩ : MethodName) (head1 (Jvm.Cond.code (⟨"java/lang/StringUTF16", "compress", "([CI[BII)I"⟩ : MethodName) jdk_52_method_21_code 7 (some .int) :: ws) ({ frames := 0, cells := 0, slots := 0, locals := 0 } : Room)) (fun a U => a = #[(.ref ca), (.int (0 : Int32)), (.ref ba), (.int (0 : Int32)), (.int (1 : Int32))] ∧ Z.Warmed39 U.vm ∧ U.heap = h0) (fun _ _ _ _ _ => True) (fun _ U o U' => ∃ v L, o = .returned v ∧ Q_cp2_1 Z ca ba kc c0 kb h0 n0 v U'.heap L ∧ FrameEnd U o U' L ({ frames := 0, cells := 0, slots := 0, locals := 0 } : Room).cells ({ frames := 0, cells := 0, slots := 0, locals := 0 } : Room).slots) := by
  refine MetFree.of_bodySF (plainFor_of_name s1pn10) hisR ?_
  intro p e s m args below meth c s₁ Bd hml0 hP hK
  obtain ⟨rfl, hZ, hh⟩ := hP
  have hx := Bd.exec
  have hby := Bd.bytes
  have hret := Bd.returns
  have hlk := Bd.notSynchronized
  have hml : c.maxLocals = 7 := hml0
  have hown : s.vm.findClass "java/lang/StringUTF16" = some m.cls := findClass_of_methodNamed Bd.named
  have hnm := (name_of_methodNamed Bd.named Bd.method).1
  have X0 : Stand p l e ({ frames := 0, cells := 0, slots := 0, locals := 0 } : Room) s m #[(.ref ca), (.int (0 : Int32)), (.ref ba), (.int (0 : Int32)), (.int (1 : Int32))] below meth c s₁ [] 0 0 := Stand.of_body Bd
  have e0 : s₁.heap = h0 := by rw [← hh, Bd.state]; rfl
  have N0 := Fr.nil n0
  show Wp p e below (fun o s₂ => ∃ v L, o = .returned v ∧ Q_cp2_1 Z ca ba kc c0 kb h0 n0 v s₂.heap L ∧ FrameEnd s o s₂ L ({ frames := 0, cells := 0, slots := 0, locals := 0 } : Room).cells ({ frames := 0, cells := 0, slots := 0, locals := 0 } : Room).slots) _
  refine Wp.back (U' := (s₁.setTop (mkF m 0 #[.val (.ref ca), .val (.int (0 : Int32)), .val (.ref ba), .val (.int (0 : Int32)), .val (.int (1 : Int32)), .unset, .unset] []))) (fun t k => castTop (s1ef10 m ca (0 : Int32) ba (0 : Int32) (1 : Int32)) k) ?_
  refine Wp.back (U' := (s₁.setTop (mkF m 12 #[.val (.ref ca), .val (.int (0 : Int32)), .val (.ref ba), .val (.int (0 : Int32)), .val (.int (1 : Int32)), .val (.int (0 : Int32)), .unset] [(.int (0 : Int32)), (.ref ca)]))) (fun t k => XT.iconstV X0.here hx rfl (0 : Int32) (hb hby s1d10_0) (by decide) (XS.istore X0.here hx rfl (hb hby s1d10_1) rfl (l' := #[.val (.ref ca), .val (.int (0 : Int32)), .val (.ref ba), .val (.int (0 : Int32)), .val (.int (1 : Int32)), .val (.int (0 : Int32)), .unset]) rfl (XS.iload X0.here hx rfl (hb hby s1d10_3) rfl (XS.iload X0.here hx rfl (hb hby s1d10_5) rfl (XS.icmpNo X0.here hx rfl (hb hby s1d10_7) rfl (tlt (by decide)).2.1 (XS.aloadN X0.here hx rfl (hb hby s1d10_10) rfl rfl (XS.iloadN X0.here hx rfl (hb hby s1d10_11) rfl k))))))) ?_
  have vq1 := H0
  obtain ⟨cl1, Ar1, qa1, qs1, qn1, qh1, qg1⟩ := vq1
  have hin1 : ¬ ((0 : Int32) < 0 ∨ cl1.slots.size ≤ ((0 : Int32)).toNatClampNeg) := inb_of qs1 ⟨by decide, by decide⟩
  have hat1 : cl1.slots[((0 : Int32)).toNatClampNeg]? = some (.int c0) := Has.at qh1 hin1 rfl
  refine Wp.back (U' := (s₁.setTop (mkF m 13 #[.val (.ref ca), .val (.int (0 : Int32)), .val (.ref ba), .val (.int (0 : Int32)), .val (.int (1 : Int32)), .val (.int (0 : Int32)), .unset] [(.int c0)]))) (fun t k => X0.caload hx (j := (0 : Int32)) (v := (.int c0)) (by rw [e0]; exact Ar1.1) (State.isArrayOf_alike hZ.alike Ar1.2.1) Ar1.2.2 hin1 hat1 (g := (mkF m 12 #[.val (.ref ca), .val (.int (0 : Int32)), .val (.ref ba), .val (.int (0 : Int32)), .val (.int (1 : Int32)), .val (.int (0 : Int32)), .unset] [(.int (0 : Int32)), (.ref ca)])) rfl rfl (hb hby s1d10_12) t k) ?_
  refine Wp.back (U' := (s₁.setTop (mkF m 31 #[.val (.ref ca), .val (.int (0 : Int32)), .val (.ref ba), .val (.int (0 : Int32)), .val (.int (1 : Int32)), .val (.int (0 : Int32)), .val (.int c0)] [(.int (c0).toInt8.toInt32), (.int (0 : Int32)), (.ref ba)]))) (fun t k => XS.istore X0.here hx rfl (hb hby s1d10_13) rfl (l' := #[.val (.ref ca), .val (.int (0 : Int32)), .val (.ref ba), .val (.int (0 : Int32)), .val (.int (1 : Int32)), .val (.int (0 : Int32)), .val (.int c0)]) rfl (XS.iload X0.here hx rfl (hb hby s1d10_15) rfl (XT.sipushV X0.here hx rfl (255 : Int32) (hb hby s1d10_17) (by decide) (XS.icmpYes X0.here hx rfl (pc0 := 20) (pc' := 26) rfl (hb hby s1d10_20) rfl (flt h2550).2.2.2 (by decide) (by decide) (XS.aloadN X0.here hx rfl (hb hby s1d10_26) rfl rfl (XS.iloadN X0.here hx rfl (hb hby s1d10_27) rfl (XS.iload X0.here hx rfl (hb hby s1d10_28) rfl (XS.i2b X0.here hx rfl (hb hby s1d10_30) rfl k)))))))) ?_
  have vq2 := H1
  obtain ⟨cl2, Ar2, qa2, qs2, qn2, qh2, qg2⟩ := vq2
  have hin2 : ¬ ((0 : Int32) < 0 ∨ cl2.slots.size ≤ ((0 : Int32)).toNatClampNeg) := inb_of qs2 ⟨by decide, by decide⟩
  obtain ⟨T2, h2, X2, e2, W2, st2⟩ := stB X0 hx hZ e0 Ar2 (j := (0 : Int32)) hin2 (g := (mkF m 31 #[.val (.ref ca), .val (.int (0 : Int32)), .val (.ref ba), .val (.int (0 : Int32)), .val (.int (1 : Int32)), .val (.int (0 : Int32)), .val (.int c0)] [(.int (c0).toInt8.toInt32), (.int (0 : Int32)), (.ref ba)])) rfl rfl (hb hby s1d10_31)
  have V2 : Arv Z h2 ba kb .byte (1 : Int32) [(.int (nar .byte (c0).toInt8.toInt32))] (.int (0 : Int32)) := Arv.set Ar2 qa2 qs2 qn2 qh2 qg2 (fits_nar_byte (c0).toInt8.toInt32) W2 0 rfl (Nat.le_of_ble_eq_true rfl)
  have f3_0 := Nat.le_trans Z0 (Keep.of_wr W2).1
  have f3_1 := H0.other W2 ne_ca_ba
  have f3_2 := (Keep.refl h0 [ba]).wr W2 (Or.inl (List.mem_of_getElem? (i := 0) rfl))
  have N2 := Fr.snoc X2 N0 g_ba
  refine Wp.back (U' := (T2.setTop (mkF m 32 #[.val (.ref ca), .val (.int (0 : Int32)), .val (.ref ba), .val (.int (0 : Int32)), .val (.int (1 : Int32)), .val (.int (0 : Int32)), .val (.int c0)] []))) st2 ?_
  refine Wp.back (U' := (T2.setTop (mkF m 46 #[.val (.ref ca), .val (.int (1 : Int32)), .val (.ref ba), .val (.int (1 : Int32)), .val (.int (1 : Int32)), .val (.int (1 : Int32)), .val (.int c0)] [(.int (1 : Int32))]))) (fun t k => XT.iincV X2.here hx rfl (1 : Int32) (hb hby s1d10_32) (by decide) rfl (l' := #[.val (.ref ca), .val (.int (1 : Int32)), .val (.ref ba), .val (.int (0 : Int32)), .val (.int (1 : Int32)), .val (.int (0 : Int32)), .val (.int c0)]) rfl (XT.iincV X2.here hx rfl (1 : Int32) (hb hby s1d10_35) (by decide) rfl (l' := #[.val (.ref ca), .val (.int (1 : Int32)), .val (.ref ba), .val (.int (1 : Int32)), .val (.int (1 : Int32)), .val (.int (0 : Int32)), .val (.int c0)]) rfl (XT.iincV X2.here hx rfl (1 : Int32) (hb hby s1d10_38) (by decide) rfl (l' := #[.val (.ref ca), .val (.int (1 : Int32)), .val (.ref ba), .val (.int (1 : Int32)), .val (.int (1 : Int32)), .val (.int (1 : Int32)), .val (.int c0)]) rfl (XS.goto X2.here hx rfl (pc0 := 41) (pc' := 3) rfl (hb hby s1d10_41) (by decide) (by decide) (XS.iload X2.here hx rfl (hb hby s1d10_3) rfl (XS.iload X2.here hx rfl (hb hby s1d10_5) rfl (XS.icmpYes X2.here hx rfl (pc0 := 7) (pc' := 44) rfl (hb hby s1d10_7) rfl (flt (by decide)).2.1 (by decide) (by decide) (XS.iload X2.here hx rfl (hb hby s1d10_44) rfl k)))))))) ?_
  obtain ⟨fs, hr, hrun, hended, hW, hsame⟩ := X2.leave (v := (some (.int (1 : Int32)))) (fun h => by rw [hret] at h; cases h)
  refine Wp.done (retI X2 hx hret (hb hby s1d10_46) hr) hrun hended ⟨_, _, rfl, ?_, ⟨_, rfl⟩, hW, hsame.mono (by decide) (by decide)⟩
  show Q_cp2_1 Z ca ba kc c0 kb h0 n0 _ T2.heap _
  rw [e2]
  exact ⟨rfl, N2, f3_2, V2⟩
def Q_cp1_1 (Z : State) (ca : Addr) (kc : ClassId) (c0 : Int32) (h0 : Heap) (n0 : Nat) (v : Option Value) (h : Heap) (L : List Loc) : Prop := ∃ fr0 : Addr, ∃ fk0 : ClassId, v = some (.ref fr0) ∧ Fr n0 L ∧ Keep h0 h [] ∧ h0.size ≤ fr0 ∧ Arv Z h fr0 fk0 .byte (1 : Int32) [(.int (nar .byte (c0).toInt8.toInt32))] (.int (0 : Int32))
theorem s1d9_0 : decode jdk_52_method_16_code 0 = .ok (.iload_n 2, 1) := by decide +kernel
theorem s1d9_1 : decode jdk_52_method_16_code 1 = .ok (.newarray .byte, 2) := by decide +kernel
theorem s1d9_3 : decode jdk_52_method_16_code 3 = .ok (.astore_n 3, 1) := by decide +kernel
theorem s1d9_4 : decode jdk_52_method_16_code 4 = .ok (.aload_n 0, 1) := by decide +kernel
theorem s1d9_5 : decode jdk_52_method_16_code 5 = .ok (.iload_n 1, 1) := by decide +kernel
theorem s1d9_6 : decode jdk_52_method_16_code 6 = .ok (.aload_n 3, 1) := by decide +kernel
theorem s1d9_7 : decode jdk_52_method_16_code 7 = .ok (.iconst 0, 1) := by decide +kernel
theorem s1d9_8 : decode jdk_52_method_16_code 8 = .ok (.iload_n 2, 1) := by decide +kernel
theorem s1d9_9 : decode jdk_52_method_16_code 9 = .ok (.invokestatic 115, 3) := by decide +kernel
theorem s1d9_12 : decode jdk_52_method_16_code 12 = .ok (.istore 4, 2) := by decide +kernel
theorem s1d9_14 : decode jdk_52_method_16_code 14 = .ok (.iload 4, 2) := by decide +kernel
theorem s1d9_16 : decode jdk_52_method_16_code 16 = .ok (.iload_n 2, 1) := by decide +kernel
theorem s1d9_17 : decode jdk_52_method_16_code 17 = .ok (.if_icmp .eq 40, 3) := by decide +kernel
theorem s1d9_57 : decode jdk_52_method_16_code 57 = .ok (.aload_n 3, 1) := by decide +kernel
theorem s1d9_58 : decode jdk_52_method_16_code 58 = .ok (.areturn, 1) := by decide +kernel
theorem s1pd9_0 : parseMethodDescriptor "([CI[BII)I" = some ⟨[(.array .char), .int, (.array .byte), .int, .int], some .int⟩ := by decide +kernel
theorem s1pn9 : plainName "java/lang/StringUTF16" = true := by first | (simp [plainName, overriddenIn]; done) | decide +kernel
theorem s1ef9 (m : MethodId) (x0 : Addr) (x1 : Int32) (x2 : Int32) : entryFrame m #[(.ref x0), (.int x1), (.int x2)] 6 = mkF m 0 #[.val (.ref x0), .val (.int x1), .val (.int x2), .unset, .unset, .unset] [] := by first | (simp [entryFrame, mkF, argsToLocals, Value.category]; done) | rfl
set_option maxRecDepth 65536 in
set_option maxHeartbeats 40000000 in
theorem rm_cp1_1 (l : Launch) (Z : State) (a0 : Array Value) (hw : ∀ d ∈ tables_1, d.before a0 Z = true) (ws : List Jvm.Cond) (ca : Addr) (kc : ClassId) (c0 : Int32) (h0 : Heap) (n0 : Nat) (Z0 : n0 ≤ h0.size) (H0 : Arv Z h0 ca kc .char (1 : Int32) [(.int c0)] (.int (0 : Int32))) (h2550 : ¬ (255 : Int32) < c0) :
    MetFree l (⟨"java/lang/StringUTF16", "compress", "([CII)[B"⟩ : MethodName) (head1 (Jvm.Cond.code (⟨"java/lang/StringUTF16", "compress", "([CII)[B"⟩ : MethodName) jdk_52_method_16_code 6 (some (.array .byte)) :: ws) ({ frames := 1, cells := 1, slots := 1, locals := 18 } : Room)) (fun a U => a = #[(.ref ca), (.int (0 : Int32)), (.int (1 : Int32))] ∧ Z.Warmed39 U.vm ∧ U.heap = h0) (fun _ _ _ _ _ => True) (fun _ U o U' => ∃ v L, o = .returned v ∧ Q_cp1_1 Z ca kc c0 h0 n0 v U'.heap L ∧ FrameEnd U o U' L ({ frames := 1, cells := 1, slots := 1, locals := 18 } : Room).cells ({ frames := 1, cells := 1, slots := 1, locals := 18 } : Room).slots) := by
  refine MetFree.of_bodySF (plainFor_of_name s1pn9) hisR ?_
  intro p e s m args below meth c s₁ Bd hml0 hP hK
  obtain ⟨rfl, hZ, hh⟩ := hP
  have hx := Bd.exec
  have hby := Bd.bytes
  have hret := Bd.returns
  have hlk := Bd.notSynchronized
  have hml : c.maxLocals = 6 := hml0
  have hown : s.vm.findClass "java/lang/StringUTF16" = some m.cls := findClass_of_methodNamed Bd.named
  have hnm := (name_of_methodNamed Bd.named Bd.method).1
  have X0 : Stand p l e ({ frames := 1, cells := 1, slots := 1, locals := 18 } : Room) s m #[(.ref ca), (.int (0 : Int32)), (.int (1 : Int32))] below meth c s₁ [] 0 0 := Stand.of_body Bd
  have e0 : s₁.heap = h0 := by rw [← hh, Bd.state]; rfl
  have N0 := Fr.nil n0
  show Wp p e below (fun o s₂ => ∃ v L, o = .returned v ∧ Q_cp1_1 Z ca kc c0 h0 n0 v s₂.heap L ∧ FrameEnd s o s₂ L ({ frames := 1, cells := 1, slots := 1, locals := 18 } : Room).cells ({ frames := 1, cells := 1, slots := 1, locals := 18 } : Room).slots) _
  refine Wp.back (U' := (s₁.setTop (mkF m 0 #[.val (.ref ca), .val (.int (0 : Int32)), .val (.int (1 : Int32)), .unset, .unset, .unset] []))) (fun t k => castTop (s1ef9 m ca (0 : Int32) (1 : Int32)) k) ?_
  refine Wp.back (U' := (s₁.setTop (mkF m 1 #[.val (.ref ca), .val (.int (0 : Int32)), .val (.int (1 : Int32)), .unset, .unset, .unset] [(.int (1 : Int32))]))) (fun t k => XS.iloadN X0.here hx rfl (hb hby s1d9_0) rfl k) ?_
  obtain ⟨T1, h1, k1, X1, e1, E1, A1, st1⟩ := newP X0 hx hZ (hw _ (List.mem_of_getElem? (i := 20) rfl)) e0 (g := (mkF m 1 #[.val (.ref ca), .val (.int (0 : Int32)), .val (.int (1 : Int32)), .unset, .unset, .unset] [(.int (1 : Int32))])) rfl (hb hby s1d9_1) rfl (by decide) (cap := 1) (by decide) (by decide) (by decide) (by decide)
  obtain ⟨b1, g1⟩ : ∃ z, z = h0.size := ⟨_, rfl⟩
  rw [← g1] at A1 st1
  have ne_ca_b1 : ca ≠ b1 := Nat.ne_of_lt (Nat.lt_of_lt_of_le H0.lt (Nat.le_of_eq g1.symm))
  have g_b1 : n0 ≤ b1 := Nat.le_trans Z0 (Nat.le_of_eq g1.symm)
  have sz_b1 : h0.size ≤ b1 := Nat.le_trans (Keep.refl h0 []).1 (Nat.le_of_eq g1.symm)
  have f2_0 := Nat.le_trans Z0 E1.1
  have f2_1 := H0.ext E1
  have f2_2 := (Keep.refl h0 []).ext E1
  have V1 : Arv Z h1 b1 k1 .byte (1 : Int32) [(.int (0 : Int32))] (.int (0 : Int32)) := (Arv.new A1 (by decide)).pad (pad_rep [] (.int (0 : Int32)) 1)
  refine Wp.back (U' := (T1.setTop (mkF m 3 #[.val (.ref ca), .val (.int (0 : Int32)), .val (.int (1 : Int32)), .unset, .unset, .unset] [(.ref b1)]))) st1 ?_
  refine Wp.back (U' := (T1.setTop (mkF m 9 #[.val (.ref ca), .val (.int (0 : Int32)), .val (.int (1 : Int32)), .val (.ref b1), .unset, .unset] [(.int (1 : Int32)), (.int (0 : Int32)), (.ref b1), (.int (0 : Int32)), (.ref ca)]))) (fun t k => XS.astoreN X1.here hx rfl (hb hby s1d9_3) rfl rfl (l' := #[.val (.ref ca), .val (.int (0 : Int32)), .val (.int (1 : Int32)), .val (.ref b1), .unset, .unset]) rfl (XS.aloadN X1.here hx rfl (hb hby s1d9_4) rfl rfl (XS.iloadN X1.here hx rfl (hb hby s1d9_5) rfl (XS.aloadN X1.here hx rfl (hb hby s1d9_6) rfl rfl (XT.iconstV X1.here hx rfl (0 : Int32) (hb hby s1d9_7) (by decide) (XS.iloadN X1.here hx rfl (hb hby s1d9_8) rfl k)))))) ?_
  obtain ⟨_, _, ⟨T3, L3, k3, n3⟩, -, X3, ⟨Lc3, hQ3, l3, y3, z3⟩, st3⟩ := Jvm.LawKit.callS X1 hx (y := (⟨"java/lang/StringUTF16", "compress", "([CI[BII)I"⟩ : MethodName)) hown (mvT hZ (hw _ (List.mem_of_getElem? (i := 67) rfl))) (mvT hZ (hw _ (List.mem_of_getElem? (i := 68) rfl))) (mvT hZ (hw _ (List.mem_of_getElem? (i := 65) rfl))) (mvT hZ (hw _ (List.mem_of_getElem? (i := 69) rfl))) (by decide) (backOf (W := 0) (rm_cp2_1 l Z a0 hw [] ca b1 kc c0 k1 h1 n0 f2_0 f2_1 V1 g_b1 ne_ca_b1 h2550) hZ (hw _ (List.mem_of_getElem? (i := 69) rfl)) (hw _ (List.mem_of_getElem? (i := 65) rfl)) (by decide) (by decide)) (g := (mkF m 9 #[.val (.ref ca), .val (.int (0 : Int32)), .val (.int (1 : Int32)), .val (.ref b1), .unset, .unset] [(.int (1 : Int32)), (.int (0 : Int32)), (.ref b1), (.int (0 : Int32)), (.ref ca)])) rfl (by rw [hml]; rfl) (argsL := [(.ref ca), (.int (0 : Int32)), (.ref b1), (.int (0 : Int32)), (.int (1 : Int32))]) (rest := []) (lenOf s1pd9_0 rfl) rfl (by show 2 * 0 + _ ≤ _; exact Nat.le_of_eq rfl) (hb hby s1d9_9) (fun _ _ => ⟨rfl, e1, (by decide : 1 + 0 ≤ _), (by decide : 1 + 0 ≤ _)⟩)
  dsimp only [Pt.U, Pt.locs, Pt.cells, Pt.slots] at X3 l3 y3 z3 st3 hQ3
  subst l3 y3 z3
  obtain ⟨rfl, N3q, K3, o3_0⟩ := hQ3
  have f4_0 := Nat.le_trans f2_0 K3.1
  have f4_1 := f2_1.keep K3 (ninS ne_ca_b1 nin0)
  have f4_2 := f2_2.trans K3 (allS (Or.inr sz_b1) all0)
  have N3 := Fr.app N0 N3q
  refine Wp.back (U' := (T3.setTop (mkF m 12 #[.val (.ref ca), .val (.int (0 : Int32)), .val (.int (1 : Int32)), .val (.ref b1), .unset, .unset] [(.int (1 : Int32))]))) st3 ?_
  refine Wp.back (U' := (T3.setTop (mkF m 58 #[.val (.ref ca), .val (.int (0 : Int32)), .val (.int (1 : Int32)), .val (.ref b1), .val (.int (1 : Int32)), .unset] [(.ref b1)]))) (fun t k => XS.istore X3.here hx rfl (hb hby s1d9_12) rfl (l' := #[.val (.ref ca), .val (.int (0 : Int32)), .val (.int (1 : Int32)), .val (.ref b1), .val (.int (1 : Int32)), .unset]) rfl (XS.iload X3.here hx rfl (hb hby s1d9_14) rfl (XS.iloadN X3.here hx rfl (hb hby s1d9_16) rfl (XS.icmpYes X3.here hx rfl (pc0 := 17) (pc' := 57) rfl (hb hby s1d9_17) rfl (teq (by decide)).1 (by decide) (by decide) (XS.aloadN X3.here hx rfl (hb hby s1d9_57) rfl rfl k))))) ?_
  obtain ⟨fs, hr, hrun, hended, hW, hsame⟩ := X3.leave (v := (some (.ref b1))) (fun h => by rw [hret] at h; cases h)
  refine Wp.done (retOut X3 hx hret rfl (Or.inr (Or.inr (Or.inr (Or.inr ⟨rfl, rfl, rfl⟩)))) (hb hby s1d9_58) hr) hrun hended ⟨_, _, rfl, ?_, ⟨_, rfl⟩, hW, hsame.mono (by decide) (by decide)⟩
  show Q_cp1_1 Z ca kc c0 h0 n0 _ T3.heap _
  exact ⟨b1, k1, rfl, N3, f4_2, sz_b1, o3_0⟩
def Q_cf_1 (Z : State) (ba : Addr) (kb : ClassId) (vs : List Value) (dv : Value) (h0 : Heap) (n0 : Nat) (v : Option Value) (h : Heap) (L : List Loc) : Prop := v = some (.int (0 : Int32)) ∧ Fr n0 L ∧ Keep h0 h []
theorem s1d11_0 : decode jdk_52_method_15_code 0 = .ok (.iload_n 1, 1) := by decide +kernel
theorem s1d11_1 : decode jdk_52_method_15_code 1 = .ok (.aload_n 0, 1) := by decide +kernel
theorem s1d11_2 : decode jdk_52_method_15_code 2 = .ok (.arraylength, 1) := by decide +kernel
theorem s1d11_3 : decode jdk_52_method_15_code 3 = .ok (.isub, 1) := by decide +kernel
theorem s1d11_4 : decode jdk_52_method_15_code 4 = .ok (.bipush 31, 2) := by decide +kernel
theorem s1d11_6 : decode jdk_52_method_15_code 6 = .ok (.iushr, 1) := by decide +kernel
theorem s1d11_7 : decode jdk_52_method_15_code 7 = .ok (.i2b, 1) := by decide +kernel
theorem s1d11_8 : decode jdk_52_method_15_code 8 = .ok (.ireturn, 1) := by decide +kernel
theorem s1pn11 : plainName "java/lang/StringUTF16" = true := by first | (simp [plainName, overriddenIn]; done) | decide +kernel
theorem s1ef11 (m : MethodId) (x0 : Addr) (x1 : Int32) : entryFrame m #[(.ref x0), (.int x1)] 2 = mkF m 0 #[.val (.ref x0), .val (.int x1)] [] := by first | (simp [entryFrame, mkF, argsToLocals, Value.category]; done) | rfl
set_option maxRecDepth 65536 in
set_option maxHeartbeats 40000000 in
theorem rm_cf_1 (l : Launch) (Z : State) (a0 : Array Value) (hw : ∀ d ∈ tables_1, d.before a0 Z = true) (ws : List Jvm.Cond) (ba : Addr) (kb : ClassId) (vs : List Value) (dv : Value) (h0 : Heap) (n0 : Nat) (Z0 : n0 ≤ h0.size) (H0 : Arv Z h0 ba kb .byte (1 : Int32) vs dv) :
    MetFree l (⟨"java/lang/StringUTF16", "coderFromArrayLen", "([BI)B"⟩ : MethodName) (head1 (Jvm.Cond.code (⟨"java/lang/StringUTF16", "coderFromArrayLen", "([BI)B"⟩ : MethodName) jdk_52_method_15_code 2 (some .byte) :: ws) ({ frames := 0, cells := 0, slots := 0, locals := 0 } : Room)) (fun a U => a = #[(.ref ba), (.int (1 : Int32))] ∧ Z.Warmed39 U.vm ∧ U.heap = h0) (fun _ _ _ _ _ => True) (fun _ U o U' => ∃ v L, o = .returned v ∧ Q_cf_1 Z ba kb vs dv h0 n0 v U'.heap L ∧ FrameEnd U o U' L ({ frames := 0, cells := 0, slots := 0, locals := 0 } : Room).cells ({ frames := 0, cells := 0, slots := 0, locals := 0 } : Room).slots) := by
  refine MetFree.of_bodySF (plainFor_of_name s1pn11) hisR ?_
  intro p e s m args below meth c s₁ Bd hml0 hP hK
  obtain ⟨rfl, hZ, hh⟩ := hP
  have hx := Bd.exec
  have hby := Bd.bytes
  have hret := Bd.returns
  have hlk := Bd.notSynchronized
  have hml : c.maxLocals = 2 := hml0
  have hown : s.vm.findClass "java/lang/StringUTF16" = some m.cls := findClass_of_methodNamed Bd.named
  have hnm := (name_of_methodNamed Bd.named Bd.method).1
  have X0 : Stand p l e ({ frames := 0, cells := 0, slots := 0, locals := 0 } : Room) s m #[(.ref ba), (.int (1 : Int32))] below meth c s₁ [] 0 0 := Stand.of_body Bd
  have e0 : s₁.heap = h0 := by rw [← hh, Bd.state]; rfl
  have N0 := Fr.nil n0
  show Wp p e below (fun o s₂ => ∃ v L, o = .returned v ∧ Q_cf_1 Z ba kb vs dv h0 n0 v s₂.heap L ∧ FrameEnd s o s₂ L ({ frames := 0, cells := 0, slots := 0, locals := 0 } : Room).cells ({ frames := 0, cells := 0, slots := 0, locals := 0 } : Room).slots) _
  refine Wp.back (U' := (s₁.setTop (mkF m 0 #[.val (.ref ba), .val (.int (1 : Int32))] []))) (fun t k => castTop (s1ef11 m ba (1 : Int32)) k) ?_
  refine Wp.back (U' := (s₁.setTop (mkF m 2 #[.val (.ref ba), .val (.int (1 : Int32))] [(.ref ba), (.int (1 : Int32))]))) (fun t k => XS.iloadN X0.here hx rfl (hb hby s1d11_0) rfl (XS.aloadN X0.here hx rfl (hb hby s1d11_1) rfl rfl k)) ?_
  have vq1 := H0
  obtain ⟨cl1, Ar1, -, qs1, qn1, -, -⟩ := vq1
  refine Wp.back (U' := (s₁.setTop (mkF m 3 #[.val (.ref ba), .val (.int (1 : Int32))] [(.int (1 : Int32)), (.int (1 : Int32))]))) (fun t k => X0.arraylength hx (by rw [e0]; exact Ar1.1) (State.isArrayOf_alike hZ.alike Ar1.2.1) (g := (mkF m 2 #[.val (.ref ba), .val (.int (1 : Int32))] [(.ref ba), (.int (1 : Int32))])) rfl rfl (hb hby s1d11_2) t (by rw [len_of qs1 qn1]; exact k)) ?_
  refine Wp.back (U' := (s₁.setTop (mkF m 8 #[.val (.ref ba), .val (.int (1 : Int32))] [(.int (0 : Int32))]))) (fun t k => XS.isub X0.here hx rfl (hb hby s1d11_3) rfl (XT.bipushV X0.here hx rfl (31 : Int32) (hb hby s1d11_4) (by decide) (XS.iushr X0.here hx rfl (hb hby s1d11_6) rfl (XS.i2b X0.here hx rfl (hb hby s1d11_7) rfl k)))) ?_
  obtain ⟨fs, hr, hrun, hended, hW, hsame⟩ := X0.leave (v := (some (.int (0 : Int32)))) (fun h => by rw [hret] at h; cases h)
  refine Wp.done (retN X0 hx (t := .byte) hret (by simp) (hb hby s1d11_8) hr) hrun hended ⟨_, _, rfl, ?_, ⟨_, rfl⟩, hW, hsame.mono (by decide) (by decide)⟩
  show Q_cf_1 Z ba kb vs dv h0 n0 _ s₁.heap _
  rw [e0]
  exact ⟨rfl, N0, (Keep.refl h0 [])⟩
def Q_si4_1 (Z : State) (ar : Addr) (ca : Addr) (kc : ClassId) (c0 : Int32) (cs : Int32) (h0 : Heap) (n0 : Nat) (v : Option Value) (h : Heap) (L : List Loc) : Prop := ∃ fr0 : Addr, ∃ fk0 : ClassId, v = none ∧ Fr n0 L ∧ Keep h0 h [ar] ∧ h0.size ≤ fr0 ∧ Exa Z h ar "java/lang/String" ∧ Fld Z h ar "java/lang/String" "value" "[B" (.ref fr0) ∧ Fld Z h ar "java/lang/String" "coder" "B" (.int (0 : Int32)) ∧ Arv Z h fr0 fk0 .byte (1 : Int32) [(.int (nar .byte (c0).toInt8.toInt32))] (.int (0 : Int32))
theorem s1d3_0 : decode jdk_42_method_149_code 0 = .ok (.aload_n 0, 1) := by decide +kernel
theorem s1d3_1 : decode jdk_42_method_149_code 1 = .ok (.invokespecial 1, 3) := by decide +kernel
theorem s1d3_4 : decode jdk_42_method_149_code 4 = .ok (.iload_n 3, 1) := by decide +kernel
theorem s1d3_5 : decode jdk_42_method_149_code 5 = .ok (.ifCond .ne 22, 3) := by decide +kernel
theorem s1d3_27 : decode jdk_42_method_149_code 27 = .ok (.getstatic 38, 3) := by decide +kernel
theorem s1d3_30 : decode jdk_42_method_149_code 30 = .ok (.ifCond .eq 28, 3) := by decide +kernel
theorem s1d3_33 : decode jdk_42_method_149_code 33 = .ok (.aload_n 1, 1) := by decide +kernel
theorem s1d3_34 : decode jdk_42_method_149_code 34 = .ok (.iload_n 2, 1) := by decide +kernel
theorem s1d3_35 : decode jdk_42_method_149_code 35 = .ok (.iload_n 3, 1) := by decide +kernel
theorem s1d3_36 : decode jdk_42_method_149_code 36 = .ok (.invokestatic 177, 3) := by decide +kernel
theorem s1d3_39 : decode jdk_42_method_149_code 39 = .ok (.astore 5, 2) := by decide +kernel
theorem s1d3_41 : decode jdk_42_method_149_code 41 = .ok (.aload_n 0, 1) := by decide +kernel
theorem s1d3_42 : decode jdk_42_method_149_code 42 = .ok (.aload 5, 2) := by decide +kernel
theorem s1d3_44 : decode jdk_42_method_149_code 44 = .ok (.iload_n 3, 1) := by decide +kernel
theorem s1d3_45 : decode jdk_42_method_149_code 45 = .ok (.invokestatic 47, 3) := by decide +kernel
theorem s1d3_48 : decode jdk_42_method_149_code 48 = .ok (.putfield 15, 3) := by decide +kernel
theorem s1d3_51 : decode jdk_42_method_149_code 51 = .ok (.aload_n 0, 1) := by decide +kernel
theorem s1d3_52 : decode jdk_42_method_149_code 52 = .ok (.aload 5, 2) := by decide +kernel
theorem s1d3_54 : decode jdk_42_method_149_code 54 = .ok (.putfield 9, 3) := by decide +kernel
theorem s1d3_57 : decode jdk_42_method_149_code 57 = .ok (.return_, 1) := by decide +kernel
theorem s1pd3_0 : parseMethodDescriptor "([CII)[B" = some ⟨[(.array .char), .int, .int], some (.array .byte)⟩ := by decide +kernel
theorem s1pd3_1 : parseMethodDescriptor "([BI)B" = some ⟨[(.array .byte), .int], some .byte⟩ := by decide +kernel
theorem s1pn3 : plainName "java/lang/String" = true := by first | (simp [plainName, overriddenIn]; done) | decide +kernel
theorem s1ef3 (m : MethodId) (x0 : Addr) (x1 : Addr) (x2 : Int32) (x3 : Int32) : entryFrame m #[(.ref x0), (.ref x1), (.int x2), (.int x3), .null] 6 = mkF m 0 #[.val (.ref x0), .val (.ref x1), .val (.int x2), .val (.int x3), .val .null, .unset] [] := by first | (simp [entryFrame, mkF, argsToLocals, Value.category]; done) | rfl
set_option maxRecDepth 65536 in
set_option maxHeartbeats 40000000 in
theorem rm_si4_1 (l : Launch) (Z : State) (a0 : Array Value) (hw : ∀ d ∈ tables_1, d.before a0 Z = true) (ws : List Jvm.Cond) (ar : Addr) (ca : Addr) (kc : ClassId) (c0 : Int32) (cs : Int32) (h0 : Heap) (n0 : Nat) (Z0 : n0 ≤ h0.size) (H0 : Exa Z h0 ar "java/lang/String") (H1 : Fld Z h0 ar "java/lang/String" "value" "[B" .null) (H2 : Fld Z h0 ar "java/lang/String" "coder" "B" (.int (0 : Int32))) (H3 : Arv Z h0 ca kc .char (1 : Int32) [(.int c0)] (.int (0 : Int32))) (H4 : Sta Z h0 "java/lang/String" "COMPACT_STRINGS" "Z" (.int cs)) (g_ar : n0 ≤ ar) (ne_ca_ar : ca ≠ ar) (h2550 : ¬ (255 : Int32) < c0) (hcs : ¬ cs = (0 : Int32)) :
    MetFree l (⟨"java/lang/String", "<init>", "([CIILjava/lang/Void;)V"⟩ : MethodName) (head1 (Jvm.Cond.code (⟨"java/lang/String", "<init>", "([CIILjava/lang/Void;)V"⟩ : MethodName) jdk_42_method_149_code 6 none :: ws) ({ frames := 2, cells := 1, slots := 1, locals := 35 } : Room)) (fun a U => a = #[(.ref ar), (.ref ca), (.int (0 : Int32)), (.int (1 : Int32)), .null] ∧ Z.Warmed39 U.vm ∧ U.heap = h0) (fun _ _ _ _ _ => True) (fun _ U o U' => ∃ v L, o = .returned v ∧ Q_si4_1 Z ar ca kc c0 cs h0 n0 v U'.heap L ∧ FrameEnd U o U' L ({ frames := 2, cells := 1, slots := 1, locals := 35 } : Room).cells ({ frames := 2, cells := 1, slots := 1, locals := 35 } : Room).slots) := by
  refine MetFree.of_bodySF (plainFor_of_name s1pn3) hisR ?_
  intro p e s m args below meth c s₁ Bd hml0 hP hK
  obtain ⟨rfl, hZ, hh⟩ := hP
  have hx := Bd.exec
  have hby := Bd.bytes
  have hret := Bd.returns
  have hlk := Bd.notSynchronized
  have hml : c.maxLocals = 6 := hml0
  have hown : s.vm.findClass "java/lang/String" = some m.cls := findClass_of_methodNamed Bd.named
  have hnm := (name_of_methodNamed Bd.named Bd.method).1
  have X0 : Stand p l e ({ frames := 2, cells := 1, slots := 1, locals := 35 } : Room) s m #[(.ref ar), (.ref ca), (.int (0 : Int32)), (.int (1 : Int32)), .null] below meth c s₁ [] 0 0 := Stand.of_body Bd
  have e0 : s₁.heap = h0 := by rw [← hh, Bd.state]; rfl
  have N0 := Fr.nil n0
  show Wp p e below (fun o s₂ => ∃ v L, o = .returned v ∧ Q_si4_1 Z ar ca kc c0 cs h0 n0 v s₂.heap L ∧ FrameEnd s o s₂ L ({ frames := 2, cells := 1, slots := 1, locals := 35 } : Room).cells ({ frames := 2, cells := 1, slots := 1, locals := 35 } : Room).slots) _
  refine Wp.back (U' := (s₁.setTop (mkF m 0 #[.val (.ref ar), .val (.ref ca), .val (.int (0 : Int32)), .val (.int (1 : Int32)), .val .null, .unset] []))) (fun t k => castTop (s1ef3 m ar ca (0 : Int32) (1 : Int32)) k) ?_
  refine Wp.back (U' := (s₁.setTop (mkF m 1 #[.val (.ref ar), .val (.ref ca), .val (.int (0 : Int32)), .val (.int (1 : Int32)), .val .null, .unset] [(.ref ar)]))) (fun t k => XS.aloadN X0.here hx rfl (hb hby s1d3_0) rfl rfl k) ?_
  obtain ⟨T1, X1, e1, st1⟩ := initO X0 hx hZ hown (hw _ (List.mem_of_getElem? (i := 16) rfl)) (hw _ (List.mem_of_getElem? (i := 17) rfl)) (hw _ (List.mem_of_getElem? (i := 18) rfl)) e0 (g := (mkF m 1 #[.val (.ref ar), .val (.ref ca), .val (.int (0 : Int32)), .val (.int (1 : Int32)), .val .null, .unset] [(.ref ar)])) rfl (by rw [hml]; rfl) rfl (hb hby s1d3_1) (by decide) (W := 0) (by show 2 * 0 + _ ≤ _; exact Nat.le_of_eq rfl) (by decide)
  refine Wp.back (U' := (T1.setTop (mkF m 4 #[.val (.ref ar), .val (.ref ca), .val (.int (0 : Int32)), .val (.int (1 : Int32)), .val .null, .unset] []))) st1 ?_
  refine Wp.back (U' := (T1.setTop (mkF m 27 #[.val (.ref ar), .val (.ref ca), .val (.int (0 : Int32)), .val (.int (1 : Int32)), .val .null, .unset] []))) (fun t k => XS.iloadN X1.here hx rfl (hb hby s1d3_4) rfl (XS.ifYes X1.here hx rfl (pc0 := 5) (pc' := 27) rfl (hb hby s1d3_5) rfl ((if0 _ _).trans (feq (by decide)).2) (by decide) (by decide) k)) ?_
  obtain ⟨T2, X2, e2, st2⟩ := getS2 X1 hx hZ hown (host := "") (Or.inl (hw _ (List.mem_of_getElem? (i := 62) rfl))) Via.refl e1 H4 (g := (mkF m 27 #[.val (.ref ar), .val (.ref ca), .val (.int (0 : Int32)), .val (.int (1 : Int32)), .val .null, .unset] [])) rfl (hb hby s1d3_27)
  refine Wp.back (U' := (T2.setTop (mkF m 30 #[.val (.ref ar), .val (.ref ca), .val (.int (0 : Int32)), .val (.int (1 : Int32)), .val .null, .unset] [(.int cs)]))) st2 ?_
  refine Wp.back (U' := (T2.setTop (mkF m 36 #[.val (.ref ar), .val (.ref ca), .val (.int (0 : Int32)), .val (.int (1 : Int32)), .val .null, .unset] [(.int (1 : Int32)), (.int (0 : Int32)), (.ref ca)]))) (fun t k => XS.ifNo X2.here hx rfl (hb hby s1d3_30) rfl ((if0 _ _).trans (feq hcs).1) (XS.aloadN X2.here hx rfl (hb hby s1d3_33) rfl rfl (XS.iloadN X2.here hx rfl (hb hby s1d3_34) rfl (XS.iloadN X2.here hx rfl (hb hby s1d3_35) rfl k)))) ?_
  obtain ⟨_, _, ⟨T3, L3, k3, n3⟩, -, X3, ⟨Lc3, hQ3, l3, y3, z3⟩, st3⟩ := Jvm.LawKit.callS X2 hx (y := (⟨"java/lang/StringUTF16", "compress", "([CII)[B"⟩ : MethodName)) hown (mvT hZ (hw _ (List.mem_of_getElem? (i := 63) rfl))) (mvT hZ (hw _ (List.mem_of_getElem? (i := 64) rfl))) (mvT hZ (hw _ (List.mem_of_getElem? (i := 65) rfl))) (mvT hZ (hw _ (List.mem_of_getElem? (i := 66) rfl))) (by decide) (backOf (W := 0) (rm_cp1_1 l Z a0 hw [] ca kc c0 h0 n0 Z0 H3 h2550) hZ (hw _ (List.mem_of_getElem? (i := 66) rfl)) (hw _ (List.mem_of_getElem? (i := 65) rfl)) (by decide) (by decide)) (g := (mkF m 36 #[.val (.ref ar), .val (.ref ca), .val (.int (0 : Int32)), .val (.int (1 : Int32)), .val .null, .unset] [(.int (1 : Int32)), (.int (0 : Int32)), (.ref ca)])) rfl (by rw [hml]; rfl) (argsL := [(.ref ca), (.int (0 : Int32)), (.int (1 : Int32))]) (rest := []) (lenOf s1pd3_0 rfl) rfl (by show 2 * 0 + _ ≤ _; exact Nat.le_of_eq rfl) (hb hby s1d3_36) (fun _ _ => ⟨rfl, e2, (by decide : 0 + 1 ≤ _), (by decide : 0 + 1 ≤ _)⟩)
  dsimp only [Pt.U, Pt.locs, Pt.cells, Pt.slots] at X3 l3 y3 z3 st3 hQ3
  subst l3 y3 z3
  obtain ⟨b3_0, k3_0, rfl, N3q, K3, sf3_0, o3_0⟩ := hQ3
  have ne_ar_b3_0 : ar ≠ b3_0 := Nat.ne_of_lt (Nat.lt_of_lt_of_le H0.lt sf3_0)
  have ne_ca_b3_0 : ca ≠ b3_0 := Nat.ne_of_lt (Nat.lt_of_lt_of_le H3.lt sf3_0)
  have g_b3_0 : n0 ≤ b3_0 := Nat.le_trans Z0 sf3_0
  have sz_b3_0 : h0.size ≤ b3_0 := Nat.le_trans (Keep.refl h0 [ar]).1 sf3_0
  have f4_0 := Nat.le_trans Z0 K3.1
  have f4_1 := H0.keep K3
  have f4_2 := H1.keep K3 nin0
  have f4_3 := H2.keep K3 nin0
  have f4_4 := H3.keep K3 nin0
  have f4_5 := Sta_keep0 H4 K3
  have f4_6 := (Keep.refl h0 [ar]).trans K3 all0
  have N3 := Fr.app N0 N3q
  refine Wp.back (U' := (T3.setTop (mkF m 39 #[.val (.ref ar), .val (.ref ca), .val (.int (0 : Int32)), .val (.int (1 : Int32)), .val .null, .unset] [(.ref b3_0)]))) st3 ?_
  refine Wp.back (U' := (T3.setTop (mkF m 45 #[.val (.ref ar), .val (.ref ca), .val (.int (0 : Int32)), .val (.int (1 : Int32)), .val .null, .val (.ref b3_0)] [(.int (1 : Int32)), (.ref b3_0), (.ref ar)]))) (fun t k => XS.astore X3.here hx rfl (hb hby s1d3_39) rfl rfl (l' := #[.val (.ref ar), .val (.ref ca), .val (.int (0 : Int32)), .val (.int (1 : Int32)), .val .null, .val (.ref b3_0)]) rfl (XS.aloadN X3.here hx rfl (hb hby s1d3_41) rfl rfl (XS.aload X3.here hx rfl (hb hby s1d3_42) rfl rfl (XS.iloadN X3.here hx rfl (hb hby s1d3_44) rfl k)))) ?_
  obtain ⟨_, _, ⟨T5, L5, k5, n5⟩, -, X5, ⟨Lc5, hQ5, l5, y5, z5⟩, st5⟩ := Jvm.LawKit.callS X3 hx (y := (⟨"java/lang/StringUTF16", "coderFromArrayLen", "([BI)B"⟩ : MethodName)) hown (mvT hZ (hw _ (List.mem_of_getElem? (i := 70) rfl))) (mvT hZ (hw _ (List.mem_of_getElem? (i := 71) rfl))) (mvT hZ (hw _ (List.mem_of_getElem? (i := 65) rfl))) (mvT hZ (hw _ (List.mem_of_getElem? (i := 72) rfl))) (by decide) (backOf (W := 1) (rm_cf_1 l Z a0 hw [] b3_0 k3_0 [(.int (nar .byte (c0).toInt8.toInt32))] (.int (0 : Int32)) T3.heap n0 f4_0 o3_0) hZ (hw _ (List.mem_of_getElem? (i := 72) rfl)) (hw _ (List.mem_of_getElem? (i := 65) rfl)) (by decide) (by decide)) (g := (mkF m 45 #[.val (.ref ar), .val (.ref ca), .val (.int (0 : Int32)), .val (.int (1 : Int32)), .val .null, .val (.ref b3_0)] [(.int (1 : Int32)), (.ref b3_0), (.ref ar)])) rfl (by rw [hml]; rfl) (argsL := [(.ref b3_0), (.int (1 : Int32))]) (rest := [(.ref ar)]) (lenOf s1pd3_1 rfl) rfl (by show 2 * 0 + _ ≤ _; exact Nat.le_of_eq rfl) (hb hby s1d3_45) (fun _ _ => ⟨rfl, rfl, (by decide : 1 + 0 ≤ _), (by decide : 1 + 0 ≤ _)⟩)
  dsimp only [Pt.U, Pt.locs, Pt.cells, Pt.slots] at X5 l5 y5 z5 st5 hQ5
  subst l5 y5 z5
  obtain ⟨rfl, N5q, K5⟩ := hQ5
  have f6_0 := Nat.le_trans f4_0 K5.1
  have f6_1 := f4_1.keep K5
  have f6_2 := f4_2.keep K5 nin0
  have f6_3 := f4_3.keep K5 nin0
  have f6_4 := f4_4.keep K5 nin0
  have f6_5 := Sta_keep0 f4_5 K5
  have f6_6 := f4_6.trans K5 all0
  have f6_7 := o3_0.keep K5 nin0
  have N5 := Fr.app N3 N5q
  refine Wp.back (U' := (T5.setTop (mkF m 48 #[.val (.ref ar), .val (.ref ca), .val (.int (0 : Int32)), .val (.int (1 : Int32)), .val .null, .val (.ref b3_0)] [(.int (0 : Int32)), (.ref ar)]))) st5 ?_
  obtain ⟨T7, h7, X7, e7, W7, st7⟩ := putFN X5 hx hZ hown (hw _ (List.mem_of_getElem? (i := 26) rfl)) Via.refl rfl f6_3 f6_1 (Or.inr ⟨(hw _ (List.mem_of_getElem? (i := 22) rfl)), rfl, hnm⟩) (hw _ (List.mem_of_getElem? (i := 6) rfl)) (ty := .byte) (v' := .int (0 : Int32)) (by decide) rfl rfl (g := (mkF m 48 #[.val (.ref ar), .val (.ref ca), .val (.int (0 : Int32)), .val (.int (1 : Int32)), .val .null, .val (.ref b3_0)] [(.int (0 : Int32)), (.ref ar)])) rfl rfl (hb hby s1d3_48)
  have Fw7 := f6_3.same W7
  have f8_0 := Nat.le_trans f6_0 (Keep.of_wr W7).1
  have f8_1 := f6_1.wr W7
  have f8_2 := f6_2.other W7 (Or.inr (slot_ne (Or.inr (hw _ (List.mem_of_getElem? (i := 21) rfl))) (Or.inr (hw _ (List.mem_of_getElem? (i := 22) rfl))) (by decide) (t := (.array .byte)) (t' := .byte) (by decide) (by decide)))
  have f8_3 := f6_4.other W7 ne_ca_ar
  have f8_4 := f6_5.wr W7
  have f8_5 := f6_6.wr W7 (Or.inl (List.mem_of_getElem? (i := 0) rfl))
  have f8_6 := f6_7.other W7 (Ne.symm ne_ar_b3_0)
  have N7 := Fr.snoc X7 N5 g_ar
  refine Wp.back (U' := (T7.setTop (mkF m 51 #[.val (.ref ar), .val (.ref ca), .val (.int (0 : Int32)), .val (.int (1 : Int32)), .val .null, .val (.ref b3_0)] []))) st7 ?_
  refine Wp.back (U' := (T7.setTop (mkF m 54 #[.val (.ref ar), .val (.ref ca), .val (.int (0 : Int32)), .val (.int (1 : Int32)), .val .null, .val (.ref b3_0)] [(.ref b3_0), (.ref ar)]))) (fun t k => XS.aloadN X7.here hx rfl (hb hby s1d3_51) rfl rfl (XS.aload X7.here hx rfl (hb hby s1d3_52) rfl rfl k)) ?_
  obtain ⟨T9, h9, X9, e9, W9, st9⟩ := putF X7 hx hZ hown (host := "") (Or.inl (hw _ (List.mem_of_getElem? (i := 25) rfl))) Via.refl e7 f8_2 f8_1 (Or.inr ⟨(hw _ (List.mem_of_getElem? (i := 21) rfl)), rfl, hnm⟩) (hw _ (List.mem_of_getElem? (i := 6) rfl)) (ty := (.array .byte)) (by decide) rfl rfl (g := (mkF m 54 #[.val (.ref ar), .val (.ref ca), .val (.int (0 : Int32)), .val (.int (1 : Int32)), .val .null, .val (.ref b3_0)] [(.ref b3_0), (.ref ar)])) rfl rfl (hb hby s1d3_54)
  have Fw9 := f8_2.same W9
  have f10_0 := Nat.le_trans f8_0 (Keep.of_wr W9).1
  have f10_1 := f8_1.wr W9
  have f10_2 := f8_3.other W9 ne_ca_ar
  have f10_3 := f8_4.wr W9
  have f10_4 := f8_5.wr W9 (Or.inl (List.mem_of_getElem? (i := 0) rfl))
  have f10_5 := f8_6.other W9 (Ne.symm ne_ar_b3_0)
  have f10_6 := Fw7.other W9 (Or.inr (slot_ne (Or.inr (hw _ (List.mem_of_getElem? (i := 22) rfl))) (Or.inr (hw _ (List.mem_of_getElem? (i := 21) rfl))) (by decide) (t := .byte) (t' := (.array .byte)) (by decide) (by decide)))
  have N9 := Fr.snoc X9 N7 g_ar
  refine Wp.back (U' := (T9.setTop (mkF m 57 #[.val (.ref ar), .val (.ref ca), .val (.int (0 : Int32)), .val (.int (1 : Int32)), .val .null, .val (.ref b3_0)] []))) st9 ?_
  obtain ⟨fs, hr, hrun, hended, hW, hsame⟩ := X9.leave (v := none) (fun _ => rfl)
  refine Wp.done (X9.returnOut hx hret (hb hby s1d3_57) hr) hrun hended ⟨_, _, rfl, ?_, ⟨_, rfl⟩, hW, hsame.mono (by decide) (by decide)⟩
  show Q_si4_1 Z ar ca kc c0 cs h0 n0 _ T9.heap _
  rw [e9]
  exact ⟨b3_0, k3_0, rfl, N9, f10_4, sz_b3_0, f10_1, Fw9, f10_6, f10_5⟩
def Q_si1_1 (Z : State) (ar : Addr) (ca : Addr) (kc : ClassId) (c0 : Int32) (cs : Int32) (h0 : Heap) (n0 : Nat) (v : Option Value) (h : Heap) (L : List Loc) : Prop := ∃ fr0 : Addr, ∃ fk0 : ClassId, v = none ∧ Fr n0 L ∧ Keep h0 h [ar] ∧ h0.size ≤ fr0 ∧ Exa Z h ar "java/lang/String" ∧ Fld Z h ar "java/lang/String" "value" "[B" (.ref fr0) ∧ Fld Z h ar "java/lang/String" "coder" "B" (.int (0 : Int32)) ∧ Arv Z h fr0 fk0 .byte (1 : Int32) [(.int (nar .byte (c0).toInt8.toInt32))] (.int (0 : Int32))
theorem s1d2_0 : decode jdk_42_method_3_code 0 = .ok (.aload_n 0, 1) := by decide +kernel
theorem s1d2_1 : decode jdk_42_method_3_code 1 = .ok (.aload_n 1, 1) := by decide +kernel
theorem s1d2_2 : decode jdk_42_method_3_code 2 = .ok (.iconst 0, 1) := by decide +kernel
theorem s1d2_3 : decode jdk_42_method_3_code 3 = .ok (.aload_n 1, 1) := by decide +kernel
theorem s1d2_4 : decode jdk_42_method_3_code 4 = .ok (.arraylength, 1) := by decide +kernel
theorem s1d2_5 : decode jdk_42_method_3_code 5 = .ok (.aconst_null, 1) := by decide +kernel
theorem s1d2_6 : decode jdk_42_method_3_code 6 = .ok (.invokespecial 27, 3) := by decide +kernel
theorem s1d2_9 : decode jdk_42_method_3_code 9 = .ok (.return_, 1) := by decide +kernel
theorem s1pd2_0 : parseMethodDescriptor "([CIILjava/lang/Void;)V" = some ⟨[(.array .char), .int, .int, (.object "java/lang/Void")], none⟩ := by decide +kernel
theorem s1pn2 : plainName "java/lang/String" = true := by first | (simp [plainName, overriddenIn]; done) | decide +kernel
theorem s1ef2 (m : MethodId) (x0 : Addr) (x1 : Addr) : entryFrame m #[(.ref x0), (.ref x1)] 2 = mkF m 0 #[.val (.ref x0), .val (.ref x1)] [] := by first | (simp [entryFrame, mkF, argsToLocals, Value.category]; done) | rfl
set_option maxRecDepth 65536 in
set_option maxHeartbeats 40000000 in
theorem rm_si1_1 (l : Launch) (Z : State) (a0 : Array Value) (hw : ∀ d ∈ tables_1, d.before a0 Z = true) (ws : List Jvm.Cond) (ar : Addr) (ca : Addr) (kc : ClassId) (c0 : Int32) (cs : Int32) (h0 : Heap) (n0 : Nat) (Z0 : n0 ≤ h0.size) (H0 : Exa Z h0 ar "java/lang/String") (H1 : Fld Z h0 ar "java/lang/String" "value" "[B" .null) (H2 : Fld Z h0 ar "java/lang/String" "coder" "B" (.int (0 : Int32))) (H3 : Arv Z h0 ca kc .char (1 : Int32) [(.int c0)] (.int (0 : Int32))) (H4 : Sta Z h0 "java/lang/String" "COMPACT_STRINGS" "Z" (.int cs)) (g_ar : n0 ≤ ar) (ne_ca_ar : ca ≠ ar) (h2550 : ¬ (255 : Int32) < c0) (hcs : ¬ cs = (0 : Int32)) :
    MetFree l (⟨"java/lang/String", "<init>", "([C)V"⟩ : MethodName) (head1 (Jvm.Cond.code (⟨"java/lang/String", "<init>", "([C)V"⟩ : MethodName) jdk_42_method_3_code 2 none :: ws) ({ frames := 3, cells := 1, slots := 1, locals := 52 } : Room)) (fun a U => a = #[(.ref ar), (.ref ca)] ∧ Z.Warmed39 U.vm ∧ U.heap = h0) (fun _ _ _ _ _ => True) (fun _ U o U' => ∃ v L, o = .returned v ∧ Q_si1_1 Z ar ca kc c0 cs h0 n0 v U'.heap L ∧ FrameEnd U o U' L ({ frames := 3, cells := 1, slots := 1, locals := 52 } : Room).cells ({ frames := 3, cells := 1, slots := 1, locals := 52 } : Room).slots) := by
  refine MetFree.of_bodySF (plainFor_of_name s1pn2) hisR ?_
  intro p e s m args below meth c s₁ Bd hml0 hP hK
  obtain ⟨rfl, hZ, hh⟩ := hP
  have hx := Bd.exec
  have hby := Bd.bytes
  have hret := Bd.returns
  have hlk := Bd.notSynchronized
  have hml : c.maxLocals = 2 := hml0
  have hown : s.vm.findClass "java/lang/String" = some m.cls := findClass_of_methodNamed Bd.named
  have hnm := (name_of_methodNamed Bd.named Bd.method).1
  have X0 : Stand p l e ({ frames := 3, cells := 1, slots := 1, locals := 52 } : Room) s m #[(.ref ar), (.ref ca)] below meth c s₁ [] 0 0 := Stand.of_body Bd
  have e0 : s₁.heap = h0 := by rw [← hh, Bd.state]; rfl
  have N0 := Fr.nil n0
  show Wp p e below (fun o s₂ => ∃ v L, o = .returned v ∧ Q_si1_1 Z ar ca kc c0 cs h0 n0 v s₂.heap L ∧ FrameEnd s o s₂ L ({ frames := 3, cells := 1, slots := 1, locals := 52 } : Room).cells ({ frames := 3, cells := 1, slots := 1, locals := 52 } : Room).slots) _
  refine Wp.back (U' := (s₁.setTop (mkF m 0 #[.val (.ref ar), .val (.ref ca)] []))) (fun t k => castTop (s1ef2 m ar ca) k) ?_
  refine Wp.back (U' := (s₁.setTop (mkF m 4 #[.val (.ref ar), .val (.ref ca)] [(.ref ca), (.int (0 : Int32)), (.ref ca), (.ref ar)]))) (fun t k => XS.aloadN X0.here hx rfl (hb hby s1d2_0) rfl rfl (XS.aloadN X0.here hx rfl (hb hby s1d2_1) rfl rfl (XT.iconstV X0.here hx rfl (0 : Int32) (hb hby s1d2_2) (by decide) (XS.aloadN X0.here hx rfl (hb hby s1d2_3) rfl rfl k)))) ?_
  have vq1 := H3
  obtain ⟨cl1, Ar1, -, qs1, qn1, -, -⟩ := vq1
  refine Wp.back (U' := (s₁.setTop (mkF m 5 #[.val (.ref ar), .val (.ref ca)] [(.int (1 : Int32)), (.int (0 : Int32)), (.ref ca), (.ref ar)]))) (fun t k => X0.arraylength hx (by rw [e0]; exact Ar1.1) (State.isArrayOf_alike hZ.alike Ar1.2.1) (g := (mkF m 4 #[.val (.ref ar), .val (.ref ca)] [(.ref ca), (.int (0 : Int32)), (.ref ca), (.ref ar)])) rfl rfl (hb hby s1d2_4) t (by rw [len_of qs1 qn1]; exact k)) ?_
  refine Wp.back (U' := (s₁.setTop (mkF m 6 #[.val (.ref ar), .val (.ref ca)] [.null, (.int (1 : Int32)), (.int (0 : Int32)), (.ref ca), (.ref ar)]))) (fun t k => XS.aconstNull X0.here hx rfl (hb hby s1d2_5) k) ?_
  obtain ⟨_, _, ⟨T2, L2, k2, n2⟩, -, X2, ⟨Lc2, hQ2, l2, y2, z2⟩, st2⟩ := X0.specialBack hx (y := (⟨"java/lang/String", "<init>", "([CIILjava/lang/Void;)V"⟩ : MethodName)) rfl hown (mvT hZ (hw _ (List.mem_of_getElem? (i := 12) rfl))) (mvT hZ (hw _ (List.mem_of_getElem? (i := 13) rfl))) (mvT hZ (hw _ (List.mem_of_getElem? (i := 15) rfl))) (by decide) (backOf (W := 0) (rm_si4_1 l Z a0 hw [] ar ca kc c0 cs h0 n0 Z0 H0 H1 H2 H3 H4 g_ar ne_ca_ar h2550 hcs) hZ (hw _ (List.mem_of_getElem? (i := 15) rfl)) (hw _ (List.mem_of_getElem? (i := 7) rfl)) (by decide) (by decide)) (g := (mkF m 6 #[.val (.ref ar), .val (.ref ca)] [.null, (.int (1 : Int32)), (.int (0 : Int32)), (.ref ca), (.ref ar)])) rfl (by rw [hml]; rfl) (Steps.refl _) (a := ar) (argsL := [(.ref ca), (.int (0 : Int32)), (.int (1 : Int32)), .null]) (rest := []) (lenOf s1pd2_0 rfl) rfl (by show 2 * 0 + _ ≤ _; exact Nat.le_of_eq rfl) (hb hby s1d2_6) (fun _ _ => ⟨rfl, e0, (by decide : 0 + 1 ≤ _), (by decide : 0 + 1 ≤ _)⟩)
  dsimp only [Pt.U, Pt.locs, Pt.cells, Pt.slots] at X2 l2 y2 z2 st2 hQ2
  subst l2 y2 z2
  obtain ⟨b2_0, k2_0, rfl, N2q, K2, sf2_0, o2_0, o2_1, o2_2, o2_3⟩ := hQ2
  have ne_ar_b2_0 : ar ≠ b2_0 := Nat.ne_of_lt (Nat.lt_of_lt_of_le H0.lt sf2_0)
  have ne_ca_b2_0 : ca ≠ b2_0 := Nat.ne_of_lt (Nat.lt_of_lt_of_le H3.lt sf2_0)
  have g_b2_0 : n0 ≤ b2_0 := Nat.le_trans Z0 sf2_0
  have sz_b2_0 : h0.size ≤ b2_0 := Nat.le_trans (Keep.refl h0 [ar]).1 sf2_0
  have f3_0 := Nat.le_trans Z0 K2.1
  have f3_1 := H0.keep K2
  have f3_4 := H3.keep K2 (ninS ne_ca_ar nin0)
  have f3_5 := Sta_keep H4 K2 (allS (Exa_ns H0) all0)
  have f3_6 := (Keep.refl h0 [ar]).trans K2 (allS (Or.inl (List.mem_of_getElem? (i := 0) rfl)) all0)
  have N2 := Fr.app N0 N2q
  refine Wp.back (U' := (T2.setTop (mkF m 9 #[.val (.ref ar), .val (.ref ca)] []))) (fun t k => st2.trans k) ?_
  obtain ⟨fs, hr, hrun, hended, hW, hsame⟩ := X2.leave (v := none) (fun _ => rfl)
  refine Wp.done (X2.returnOut hx hret (hb hby s1d2_9) hr) hrun hended ⟨_, _, rfl, ?_, ⟨_, rfl⟩, hW, hsame.mono (by decide) (by decide)⟩
  show Q_si1_1 Z ar ca kc c0 cs h0 n0 _ T2.heap _
  exact ⟨b2_0, k2_0, rfl, N2, f3_6, sz_b2_0, o2_0, o2_1, o2_2, o2_3⟩
def Q_cp2_2 (Z : State) (ca : Addr) (ba : Addr) (kc : ClassId) (c0 : Int32) (c1 : Int32) (kb : ClassId) (h0 : Heap) (n0 : Nat) (v : Option Value) (h : Heap) (L : List Loc) : Prop := v = some (.int (2 : Int32)) ∧ Fr n0 L ∧ Keep h0 h [ba] ∧ Arv Z h ba kb .byte (2 : Int32) [(.int (nar .byte (c0).toInt8.toInt32)), (.int (nar .byte (c1).toInt8.toInt32))] (.int (0 : Int32))
theorem s2d10_0 : decode jdk_52_method_21_code 0 = .ok (.iconst 0, 1) := by decide +kernel
theorem s2d10_1 : decode jdk_52_method_21_code 1 = .ok (.istore 5, 2) := by decide +kernel
theorem s2d10_3 : decode jdk_52_method_21_code 3 = .ok (.iload 5, 2) := by decide +kernel
theorem s2d10_5 : decode jdk_52_method_21_code 5 = .ok (.iload 4, 2) := by decide +kernel
theorem s2d10_7 : decode jdk_52_method_21_code 7 = .ok (.if_icmp .ge 37, 3) := by decide +kernel
theorem s2d10_10 : decode jdk_52_method_21_code 10 = .ok (.aload_n 0, 1) := by decide +kernel
theorem s2d10_11 : decode jdk_52_method_21_code 11 = .ok (.iload_n 1, 1) := by decide +kernel
theorem s2d10_12 : decode jdk_52_method_21_code 12 = .ok (.caload, 1) := by decide +kernel
theorem s2d10_13 : decode jdk_52_method_21_code 13 = .ok (.istore 6, 2) := by decide +kernel
theorem s2d10_15 : decode jdk_52_method_21_code 15 = .ok (.iload 6, 2) := by decide +kernel
theorem s2d10_17 : decode jdk_52_method_21_code 17 = .ok (.sipush 255, 3) := by decide +kernel
theorem s2d10_20 : decode jdk_52_method_21_code 20 = .ok (.if_icmp .le 6, 3) := by decide +kernel
theorem s2d10_26 : decode jdk_52_method_21_code 26 = .ok (.aload_n 2, 1) := by decide +kernel
theorem s2d10_27 : decode jdk_52_method_21_code 27 = .ok (.iload_n 3, 1) := by decide +kernel
theorem s2d10_28 : decode jdk_52_method_21_code 28 = .ok (.iload 6, 2) := by decide +kernel
theorem s2d10_30 : decode jdk_52_method_21_code 30 = .ok (.i2b, 1) := by decide +kernel
theorem s2d10_31 : decode jdk_52_method_21_code 31 = .ok (.bastore, 1) := by decide +kernel
theorem s2d10_32 : decode jdk_52_method_21_code 32 = .ok (.iinc 1 1, 3) := by decide +kernel
theorem s2d10_35 : decode jdk_52_method_21_code 35 = .ok (.iinc 3 1, 3) := by decide +kernel
theorem s2d10_38 : decode jdk_52_method_21_code 38 = .ok (.iinc 5 1, 3) := by decide +kernel
theorem s2d10_41 : decode jdk_52_method_21_code 41 = .ok (.goto (-38), 3) := by decide +kernel
theorem s2d10_44 : decode jdk_52_method_21_code 44 = .ok (.iload 4, 2) := by decide +kernel
theorem s2d10_46 : decode jdk_52_method_21_code 46 = .ok (.ireturn, 1) := by decide +kernel
theorem s2pn10 : plainName "java/lang/StringUTF16" = true := by first | (simp [plainName, overriddenIn]; done) | decide +kernel
theorem s2ef10 (m : MethodId) (x0 : Addr) (x1 : Int32) (x2 : Addr) (x3 : Int32) (x4 : Int32) : entryFrame m #[(.ref x0), (.int x1), (.ref x2), (.int x3), (.int x4)] 7 = mkF m 0 #[.val (.ref x0), .val (.int x1), .val (.ref x2), .val (.int x3), .val (.int x4), .unset, .unset] [] := by first | (simp [entryFrame, mkF, argsToLocals, Value.category]; done) | rfl
set_option maxRecDepth 65536 in
set_option maxHeartbeats 40000000 in
theorem rm_cp2_2 (l : Launch) (Z : State) (a0 : Array Value) (hw : ∀ d ∈ tables_1, d.before a0 Z = true) (ws : List Jvm.Cond) (ca : Addr) (ba : Addr) (kc : ClassId) (c0 : Int32) (c1 : Int32) (kb : ClassId) (h0 : Heap) (n0 : Nat) (Z0 : n0 ≤ h0.size) (H0 : Arv Z h0 ca kc .char (2 : Int32) [(.int c0), (.int c1)] (.int (0 : Int32))) (H1 : Arv Z h0 ba kb .byte (2 : Int32) [(.int (0 : Int32)), (.int (0 : Int32))] (.int (0 : Int32))) (g_ba : n0 ≤ ba) (ne_ca_ba : ca ≠ ba) (h2550 : ¬ (255 : Int32) < c0) (h2551 : ¬ (255 : Int32) < c1) :
    MetFree l (⟨"java/lang/StringUTF16", "compress", "([CI[BII)I"⟩ : MethodName) (head1 (Jvm.Cond.code (⟨"java/lang/StringUTF16", "compress", "([CI[BII)I"⟩ : MethodName) jdk_52_method_21_code 7 (some .int) :: ws) ({ frames := 0, cells := 0, slots := 0, locals := 0 } : Room)) (fun a U => a = #[(.ref ca), (.int (0 : Int32)), (.ref ba), (.int (0 : Int32)), (.int (2 : Int32))] ∧ Z.Warmed39 U.vm ∧ U.heap = h0) (fun _ _ _ _ _ => True) (fun _ U o U' => ∃ v L, o = .returned v ∧ Q_cp2_2 Z ca ba kc c0 c1 kb h0 n0 v U'.heap L ∧ FrameEnd U o U' L ({ frames := 0, cells := 0, slots := 0, locals := 0 } : Room).cells ({ frames := 0, cells := 0, slots := 0, locals := 0 } : Room).slots) := by
  refine MetFree.of_bodySF (plainFor_of_name s2pn10) hisR ?_
  intro p e s m args below meth c s₁ Bd hml0 hP hK
  obtain ⟨rfl, hZ, hh⟩ := hP
  have hx := Bd.exec
  have hby := Bd.bytes
  have hret := Bd.returns
  have hlk := Bd.notSynchronized
  have hml : c.maxLocals = 7 := hml0
  have hown : s.vm.findClass "java/lang/StringUTF16" = some m.cls := findClass_of_methodNamed Bd.named
  have hnm := (name_of_methodNamed Bd.named Bd.method).1
  have X0 : Stand p l e ({ frames := 0, cells := 0, slots := 0, locals := 0 } : Room) s m #[(.ref ca), (.int (0 : Int32)), (.ref ba), (.int (0 : Int32)), (.int (2 : Int32))] below meth c s₁ [] 0 0 := Stand.of_body Bd
  have e0 : s₁.heap = h0 := by rw [← hh, Bd.state]; rfl
  have N0 := Fr.nil n0
  show Wp p e below (fun o s₂ => ∃ v L, o = .returned v ∧ Q_cp2_2 Z ca ba kc c0 c1 kb h0 n0 v s₂.heap L ∧ FrameEnd s o s₂ L ({ frames := 0, cells := 0, slots := 0, locals := 0 } : Room).cells ({ frames := 0, cells := 0, slots := 0, locals := 0 } : Room).slots) _
  refine Wp.back (U' := (s₁.setTop (mkF m 0 #[.val (.ref ca), .val (.int (0 : Int32)), .val (.ref ba), .val (.int (0 : Int32)), .val (.int (2 : Int32)), .unset, .unset] []))) (fun t k => castTop (s2ef10 m ca (0 : Int32) ba (0 : Int32) (2 : Int32)) k) ?_
  refine Wp.back (U' := (s₁.setTop (mkF m 12 #[.val (.ref ca), .val (.int (0 : Int32)), .val (.ref ba), .val (.int (0 : Int32)), .val (.int (2 : Int32)), .val (.int (0 : Int32)), .unset] [(.int (0 : Int32)), (.ref ca)]))) (fun t k => XT.iconstV X0.here hx rfl (0 : Int32) (hb hby s2d10_0) (by decide) (XS.istore X0.here hx rfl (hb hby s2d10_1) rfl (l' := #[.val (.ref ca), .val (.int (0 : Int32)), .val (.ref ba), .val (.int (0 : Int32)), .val (.int (2 : Int32)), .val (.int (0 : Int32)), .unset]) rfl (XS.iload X0.here hx rfl (hb hby s2d10_3) rfl (XS.iload X0.here hx rfl (hb hby s2d10_5) rfl (XS.icmpNo X0.here hx rfl (hb hby s2d10_7) rfl (tlt (by decide)).2.1 (XS.aloadN X0.here hx rfl (hb hby s2d10_10) rfl rfl (XS.iloadN X0.here hx rfl (hb hby s2d10_11) rfl k))))))) ?_
  have vq1 := H0
  obtain ⟨cl1, Ar1, qa1, qs1, qn1, qh1, qg1⟩ := vq1
  have hin1 : ¬ ((0 : Int32) < 0 ∨ cl1.slots.size ≤ ((0 : Int32)).toNatClampNeg) := inb_of qs1 ⟨by decide, by decide⟩
  have hat1 : cl1.slots[((0 : Int32)).toNatClampNeg]? = some (.int c0) := Has.at qh1 hin1 rfl
  refine Wp.back (U' := (s₁.setTop (mkF m 13 #[.val (.ref ca), .val (.int (0 : Int32)), .val (.ref ba), .val (.int (0 : Int32)), .val (.int (2 : Int32)), .val (.int (0 : Int32)), .unset] [(.int c0)]))) (fun t k => X0.caload hx (j := (0 : Int32)) (v := (.int c0)) (by rw [e0]; exact Ar1.1) (State.isArrayOf_alike hZ.alike Ar1.2.1) Ar1.2.2 hin1 hat1 (g := (mkF m 12 #[.val (.ref ca), .val (.int (0 : Int32)), .val (.ref ba), .val (.int (0 : Int32)), .val (.int (2 : Int32)), .val (.int (0 : Int32)), .unset] [(.int (0 : Int32)), (.ref ca)])) rfl rfl (hb hby s2d10_12) t k) ?_
  refine Wp.back (U' := (s₁.setTop (mkF m 31 #[.val (.ref ca), .val (.int (0 : Int32)), .val (.ref ba), .val (.int (0 : Int32)), .val (.int (2 : Int32)), .val (.int (0 : Int32)), .val (.int c0)] [(.int (c0).toInt8.toInt32), (.int (0 : Int32)), (.ref ba)]))) (fun t k => XS.istore X0.here hx rfl (hb hby s2d10_13) rfl (l' := #[.val (.ref ca), .val (.int (0 : Int32)), .val (.ref ba), .val (.int (0 : Int32)), .val (.int (2 : Int32)), .val (.int (0 : Int32)), .val (.int c0)]) rfl (XS.iload X0.here hx rfl (hb hby s2d10_15) rfl (XT.sipushV X0.here hx rfl (255 : Int32) (hb hby s2d10_17) (by decide) (XS.icmpYes X0.here hx rfl (pc0 := 20) (pc' := 26) rfl (hb hby s2d10_20) rfl (flt h2550).2.2.2 (by decide) (by decide) (XS.aloadN X0.here hx rfl (hb hby s2d10_26) rfl rfl (XS.iloadN X0.here hx rfl (hb hby s2d10_27) rfl (XS.iload X0.here hx rfl (hb hby s2d10_28) rfl (XS.i2b X0.here hx rfl (hb hby s2d10_30) rfl k)))))))) ?_
  have vq2 := H1
  obtain ⟨cl2, Ar2, qa2, qs2, qn2, qh2, qg2⟩ := vq2
  have hin2 : ¬ ((0 : Int32) < 0 ∨ cl2.slots.size ≤ ((0 : Int32)).toNatClampNeg) := inb_of qs2 ⟨by decide, by decide⟩
  obtain ⟨T2, h2, X2, e2, W2, st2⟩ := stB X0 hx hZ e0 Ar2 (j := (0 : Int32)) hin2 (g := (mkF m 31 #[.val (.ref ca), .val (.int (0 : Int32)), .val (.ref ba), .val (.int (0 : Int32)), .val (.int (2 : Int32)), .val (.int (0 : Int32)), .val (.int c0)] [(.int (c0).toInt8.toInt32), (.int (0 : Int32)), (.ref ba)])) rfl rfl (hb hby s2d10_31)
  have V2 : Arv Z h2 ba kb .byte (2 : Int32) [(.int (nar .byte (c0).toInt8.toInt32)), (.int (0 : Int32))] (.int (0 : Int32)) := Arv.set Ar2 qa2 qs2 qn2 qh2 qg2 (fits_nar_byte (c0).toInt8.toInt32) W2 0 rfl (Nat.le_of_ble_eq_true rfl)
  have f3_0 := Nat.le_trans Z0 (Keep.of_wr W2).1
  have f3_1 := H0.other W2 ne_ca_ba
  have f3_2 := (Keep.refl h0 [ba]).wr W2 (Or.inl (List.mem_of_getElem? (i := 0) rfl))
  have N2 := Fr.snoc X2 N0 g_ba
  refine Wp.back (U' := (T2.setTop (mkF m 32 #[.val (.ref ca), .val (.int (0 : Int32)), .val (.ref ba), .val (.int (0 : Int32)), .val (.int (2 : Int32)), .val (.int (0 : Int32)), .val (.int c0)] []))) st2 ?_
  refine Wp.back (U' := (T2.setTop (mkF m 12 #[.val (.ref ca), .val (.int (1 : Int32)), .val (.ref ba), .val (.int (1 : Int32)), .val (.int (2 : Int32)), .val (.int (1 : Int32)), .val (.int c0)] [(.int (1 : Int32)), (.ref ca)]))) (fun t k => XT.iincV X2.here hx rfl (1 : Int32) (hb hby s2d10_32) (by decide) rfl (l' := #[.val (.ref ca), .val (.int (1 : Int32)), .val (.ref ba), .val (.int (0 : Int32)), .val (.int (2 : Int32)), .val (.int (0 : Int32)), .val (.int c0)]) rfl (XT.iincV X2.here hx rfl (1 : Int32) (hb hby s2d10_35) (by decide) rfl (l' := #[.val (.ref ca), .val (.int (1 : Int32)), .val (.ref ba), .val (.int (1 : Int32)), .val (.int (2 : Int32)), .val (.int (0 : Int32)), .val (.int c0)]) rfl (XT.iincV X2.here hx rfl (1 : Int32) (hb hby s2d10_38) (by decide) rfl (l' := #[.val (.ref ca), .val (.int (1 : Int32)), .val (.ref ba), .val (.int (1 : Int32)), .val (.int (2 : Int32)), .val (.int (1 : Int32)), .val (.int c0)]) rfl (XS.goto X2.here hx rfl (pc0 := 41) (pc' := 3) rfl (hb hby s2d10_41) (by decide) (by decide) (XS.iload X2.here hx rfl (hb hby s2d10_3) rfl (XS.iload X2.here hx rfl (hb hby s2d10_5) rfl (XS.icmpNo X2.here hx rfl (hb hby s2d10_7) rfl (tlt (by decide)).2.1 (XS.aloadN X2.here hx rfl (hb hby s2d10_10) rfl rfl (XS.iloadN X2.here hx rfl (hb hby s2d10_11) rfl k))))))))) ?_
  have vq4 := f3_1
  obtain ⟨cl4, Ar4, qa4, qs4, qn4, qh4, qg4⟩ := vq4
  have hin4 : ¬ ((1 : Int32) < 0 ∨ cl4.slots.size ≤ ((1 : Int32)).toNatClampNeg) := inb_of qs4 ⟨by decide, by decide⟩
  have hat4 : cl4.slots[((1 : Int32)).toNatClampNeg]? = some (.int c1) := Has.at qh4 hin4 rfl
  refine Wp.back (U' := (T2.setTop (mkF m 13 #[.val (.ref ca), .val (.int (1 : Int32)), .val (.ref ba), .val (.int (1 : Int32)), .val (.int (2 : Int32)), .val (.int (1 : Int32)), .val (.int c0)] [(.int c1)]))) (fun t k => X2.caload hx (j := (1 : Int32)) (v := (.int c1)) (by rw [e2]; exact Ar4.1) (State.isArrayOf_alike hZ.alike Ar4.2.1) Ar4.2.2 hin4 hat4 (g := (mkF m 12 #[.val (.ref ca), .val (.int (1 : Int32)), .val (.ref ba), .val (.int (1 : Int32)), .val (.int (2 : Int32)), .val (.int (1 : Int32)), .val (.int c0)] [(.int (1 : Int32)), (.ref ca)])) rfl rfl (hb hby s2d10_12) t k) ?_
  refine Wp.back (U' := (T2.setTop (mkF m 31 #[.val (.ref ca), .val (.int (1 : Int32)), .val (.ref ba), .val (.int (1 : Int32)), .val (.int (2 : Int32)), .val (.int (1 : Int32)), .val (.int c1)] [(.int (c1).toInt8.toInt32), (.int (1 : Int32)), (.ref ba)]))) (fun t k => XS.istore X2.here hx rfl (hb hby s2d10_13) rfl (l' := #[.val (.ref ca), .val (.int (1 : Int32)), .val (.ref ba), .val (.int (1 : Int32)), .val (.int (2 : Int32)), .val (.int (1 : Int32)), .val (.int c1)]) rfl (XS.iload X2.here hx rfl (hb hby s2d10_15) rfl (XT.sipushV X2.here hx rfl (255 : Int32) (hb hby s2d10_17) (by decide) (XS.icmpYes X2.here hx rfl (pc0 := 20) (pc' := 26) rfl (hb hby s2d10_20) rfl (flt h2551).2.2.2 (by decide) (by decide) (XS.aloadN X2.here hx rfl (hb hby s2d10_26) rfl rfl (XS.iloadN X2.here hx rfl (hb hby s2d10_27) rfl (XS.iload X2.here hx rfl (hb hby s2d10_28) rfl (XS.i2b X2.here hx rfl (hb hby s2d10_30) rfl k)))))))) ?_
  have vq5 := V2
  obtain ⟨cl5, Ar5, qa5, qs5, qn5, qh5, qg5⟩ := vq5
  have hin5 : ¬ ((1 : Int32) < 0 ∨ cl5.slots.size ≤ ((1 : Int32)).toNatClampNeg) := inb_of qs5 ⟨by decide, by decide⟩
  obtain ⟨T5, h5, X5, e5, W5, st5⟩ := stB X2 hx hZ e2 Ar5 (j := (1 : Int32)) hin5 (g := (mkF m 31 #[.val (.ref ca), .val (.int (1 : Int32)), .val (.ref ba), .val (.int (1 : Int32)), .val (.int (2 : Int32)), .val (.int (1 : Int32)), .val (.int c1)] [(.int (c1).toInt8.toInt32), (.int (1 : Int32)), (.ref ba)])) rfl rfl (hb hby s2d10_31)
  have V5 : Arv Z h5 ba kb .byte (2 : Int32) [(.int (nar .byte (c0).toInt8.toInt32)), (.int (nar .byte (c1).toInt8.toInt32))] (.int (0 : Int32)) := Arv.set Ar5 qa5 qs5 qn5 qh5 qg5 (fits_nar_byte (c1).toInt8.toInt32) W5 1 rfl (Nat.le_of_ble_eq_true rfl)
  have f6_0 := Nat.le_trans f3_0 (Keep.of_wr W5).1
  have f6_1 := f3_1.other W5 ne_ca_ba
  have f6_2 := f3_2.wr W5 (Or.inl (List.mem_of_getElem? (i := 0) rfl))
  have N5 := Fr.snoc X5 N2 g_ba
  refine Wp.back (U' := (T5.setTop (mkF m 32 #[.val (.ref ca), .val (.int (1 : Int32)), .val (.ref ba), .val (.int (1 : Int32)), .val (.int (2 : Int32)), .val (.int (1 : Int32)), .val (.int c1)] []))) st5 ?_
  refine Wp.back (U' := (T5.setTop (mkF m 46 #[.val (.ref ca), .val (.int (2 : Int32)), .val (.ref ba), .val (.int (2 : Int32)), .val (.int (2 : Int32)), .val (.int (2 : Int32)), .val (.int c1)] [(.int (2 : Int32))]))) (fun t k => XT.iincV X5.here hx rfl (1 : Int32) (hb hby s2d10_32) (by decide) rfl (l' := #[.val (.ref ca), .val (.int (2 : Int32)), .val (.ref ba), .val (.int (1 : Int32)), .val (.int (2 : Int32)), .val (.int (1 : Int32)), .val (.int c1)]) rfl (XT.iincV X5.here hx rfl (1 : Int32) (hb hby s2d10_35) (by decide) rfl (l' := #[.val (.ref ca), .val (.int (2 : Int32)), .val (.ref ba), .val (.int (2 : Int32)), .val (.int (2 : Int32)), .val (.int (1 : Int32)), .val (.int c1)]) rfl (XT.iincV X5.here hx rfl (1 : Int32) (hb hby s2d10_38) (by decide) rfl (l' := #[.val (.ref ca), .val (.int (2 : Int32)), .val (.ref ba), .val (.int (2 : Int32)), .val (.int (2 : Int32)), .val (.int (2 : Int32)), .val (.int c1)]) rfl (XS.goto X5.here hx rfl (pc0 := 41) (pc' := 3) rfl (hb hby s2d10_41) (by decide) (by decide) (XS.iload X5.here hx rfl (hb hby s2d10_3) rfl (XS.iload X5.here hx rfl (hb hby s2d10_5) rfl (XS.icmpYes X5.here hx rfl (pc0 := 7) (pc' := 44) rfl (hb hby s2d10_7) rfl (flt (by decide)).2.1 (by decide) (by decide) (XS.iload X5.here hx rfl (hb hby s2d10_44) rfl k)))))))) ?_
  obtain ⟨fs, hr, hrun, hended, hW, hsame⟩ := X5.leave (v := (some (.int (2 : Int32)))) (fun h => by rw [hret] at h; cases h)
  refine Wp.done (retI X5 hx hret (hb hby s2d10_46) hr) hrun hended ⟨_, _, rfl, ?_, ⟨_, rfl⟩, hW, hsame.mono (by decide) (by decide)⟩
  show Q_cp2_2 Z ca ba kc c0 c1 kb h0 n0 _ T5.heap _
  rw [e5]
  exact ⟨rfl, N5, f6_2, V5⟩
def Q_cp1_2 (Z : State) (ca : Addr) (kc : ClassId) (c0 : Int32) (c1 : Int32) (h0 : Heap) (n0 : Nat) (v : Option Value) (h : Heap) (L : List Loc) : Prop := ∃ fr0 : Addr, ∃ fk0 : ClassId, v = some (.ref fr0) ∧ Fr n0 L ∧ Keep h0 h [] ∧ h0.size ≤ fr0 ∧ Arv Z h fr0 fk0 .byte (2 : Int32) [(.int (nar .byte (c0).toInt8.toInt32)), (.int (nar .byte (c1).toInt8.toInt32))] (.int (0 : Int32))
theorem s2d9_0 : decode jdk_52_method_16_code 0 = .ok (.iload_n 2, 1) := by decide +kernel
theorem s2d9_1 : decode jdk_52_method_16_code 1 = .ok (.newarray .byte, 2) := by decide +kernel
theorem s2d9_3 : decode jdk_52_method_16_code 3 = .ok (.astore_n 3, 1) := by decide +kernel
theorem s2d9_4 : decode jdk_52_method_16_code 4 = .ok (.aload_n 0, 1) := by decide +kernel
theorem s2d9_5 : decode jdk_52_method_16_code 5 = .ok (.iload_n 1, 1) := by decide +kernel
theorem s2d9_6 : decode jdk_52_method_16_code 6 = .ok (.aload_n 3, 1) := by decide +kernel
theorem s2d9_7 : decode jdk_52_method_16_code 7 = .ok (.iconst 0, 1) := by decide +kernel
theorem s2d9_8 : decode jdk_52_method_16_code 8 = .ok (.iload_n 2, 1) := by decide +kernel
theorem s2d9_9 : decode jdk_52_method_16_code 9 = .ok (.invokestatic 115, 3) := by decide +kernel
theorem s2d9_12 : decode jdk_52_method_16_code 12 = .ok (.istore 4, 2) := by decide +kernel
theorem s2d9_14 : decode jdk_52_method_16_code 14 = .ok (.iload 4, 2) := by decide +kernel
theorem s2d9_16 : decode jdk_52_method_16_code 16 = .ok (.iload_n 2, 1) := by decide +kernel
theorem s2d9_17 : decode jdk_52_method_16_code 17 = .ok (.if_icmp .eq 40, 3) := by decide +kernel
theorem s2d9_57 : decode jdk_52_method_16_code 57 = .ok (.aload_n 3, 1) := by decide +kernel
theorem s2d9_58 : decode jdk_52_method_16_code 58 = .ok (.areturn, 1) := by decide +kernel
theorem s2pd9_0 : parseMethodDescriptor "([CI[BII)I" = some ⟨[(.array .char), .int, (.array .byte), .int, .int], some .int⟩ := by decide +kernel
theorem s2pn9 : plainName "java/lang/StringUTF16" = true := by first | (simp [plainName, overriddenIn]; done) | decide +kernel
theorem s2ef9 (m : MethodId) (x0 : Addr) (x1 : Int32) (x2 : Int32) : entryFrame m #[(.ref x0), (.int x1), (.int x2)] 6 = mkF m 0 #[.val (.ref x0), .val (.int x1), .val (.int x2), .unset, .unset, .unset] [] := by first | (simp [entryFrame, mkF, argsToLocals, Value.category]; done) | rfl
set_option maxRecDepth 65536 in
set_option maxHeartbeats 40000000 in
theorem rm_cp1_2 (l : Launch) (Z : State) (a0 : Array Value) (hw : ∀ d ∈ tables_1, d.before a0 Z = true) (ws : List Jvm.Cond) (ca : Addr) (kc : ClassId) (c0 : Int32) (c1 : Int32) (h0 : Heap) (n0 : Nat) (Z0 : n0 ≤ h0.size) (H0 : Arv Z h0 ca kc .char (2 : Int32) [(.int c0), (.int c1)] (.int (0 : Int32))) (h2550 : ¬ (255 : Int32) < c0) (h2551 : ¬ (255 : Int32) < c1) :
    MetFree l (⟨"java/lang/StringUTF16", "compress", "([CII)[B"⟩ : MethodName) (head1 (Jvm.Cond.code (⟨"java/lang/StringUTF16", "compress", "([CII)[B"⟩ : MethodName) jdk_52_method_16_code 6 (some (.array .byte)) :: ws) ({ frames := 1, cells := 1, slots := 2, locals := 18 } : Room)) (fun a U => a = #[(.ref ca), (.int (0 : Int32)), (.int (2 : Int32))] ∧ Z.Warmed39 U.vm ∧ U.heap = h0) (fun _ _ _ _ _ => True) (fun _ U o U' => ∃ v L, o = .returned v ∧ Q_cp1_2 Z ca kc c0 c1 h0 n0 v U'.heap L ∧ FrameEnd U o U' L ({ frames := 1, cells := 1, slots := 2, locals := 18 } : Room).cells ({ frames := 1, cells := 1, slots := 2, locals := 18 } : Room).slots) := by
  refine MetFree.of_bodySF (plainFor_of_name s2pn9) hisR ?_
  intro p e s m args below meth c s₁ Bd hml0 hP hK
  obtain ⟨rfl, hZ, hh⟩ := hP
  have hx := Bd.exec
  have hby := Bd.bytes
  have hret := Bd.returns
  have hlk := Bd.notSynchronized
  have hml : c.maxLocals = 6 := hml0
  have hown : s.vm.findClass "java/lang/StringUTF16" = some m.cls := findClass_of_methodNamed Bd.named
  have hnm := (name_of_methodNamed Bd.named Bd.method).1
  have X0 : Stand p l e ({ frames := 1, cells := 1, slots := 2, locals := 18 } : Room) s m #[(.ref ca), (.int (0 : Int32)), (.int (2 : Int32))] below meth c s₁ [] 0 0 := Stand.of_body Bd
  have e0 : s₁.heap = h0 := by rw [← hh, Bd.state]; rfl
  have N0 := Fr.nil n0
  show Wp p e below (fun o s₂ => ∃ v L, o = .returned v ∧ Q_cp1_2 Z ca kc c0 c1 h0 n0 v s₂.heap L ∧ FrameEnd s o s₂ L ({ frames := 1, cells := 1, slots := 2, locals := 18 } : Room).cells ({ frames := 1, cells := 1, slots := 2, locals := 18 } : Room).slots) _
  refine Wp.back (U' := (s₁.setTop (mkF m 0 #[.val (.ref ca), .val (.int (0 : Int32)), .val (.int (2 : Int32)), .unset, .unset, .unset] []))) (fun t k => castTop (s2ef9 m ca (0 : Int32) (2 : Int32)) k) ?_
  refine Wp.back (U' := (s₁.setTop (mkF m 1 #[.val (.ref ca), .val (.int (0 : Int32)), .val (.int (2 : Int32)), .unset, .unset, .unset] [(.int (2 : Int32))]))) (fun t k => XS.iloadN X0.here hx rfl (hb hby s2d9_0) rfl k) ?_
  obtain ⟨T1, h1, k1, X1, e1, E1, A1, st1⟩ := newP X0 hx hZ (hw _ (List.mem_of_getElem? (i := 20) rfl)) e0 (g := (mkF m 1 #[.val (.ref ca), .val (.int (0 : Int32)), .val (.int (2 : Int32)), .unset, .unset, .unset] [(.int (2 : Int32))])) rfl (hb hby s2d9_1) rfl (by decide) (cap := 2) (by decide) (by decide) (by decide) (by decide)
  obtain ⟨b1, g1⟩ : ∃ z, z = h0.size := ⟨_, rfl⟩
  rw [← g1] at A1 st1
  have ne_ca_b1 : ca ≠ b1 := Nat.ne_of_lt (Nat.lt_of_lt_of_le H0.lt (Nat.le_of_eq g1.symm))
  have g_b1 : n0 ≤ b1 := Nat.le_trans Z0 (Nat.le_of_eq g1.symm)
  have sz_b1 : h0.size ≤ b1 := Nat.le_trans (Keep.refl h0 []).1 (Nat.le_of_eq g1.symm)
  have f2_0 := Nat.le_trans Z0 E1.1
  have f2_1 := H0.ext E1
  have f2_2 := (Keep.refl h0 []).ext E1
  have V1 : Arv Z h1 b1 k1 .byte (2 : Int32) [(.int (0 : Int32)), (.int (0 : Int32))] (.int (0 : Int32)) := (Arv.new A1 (by decide)).pad (pad_rep [] (.int (0 : Int32)) 2)
  refine Wp.back (U' := (T1.setTop (mkF m 3 #[.val (.ref ca), .val (.int (0 : Int32)), .val (.int (2 : Int32)), .unset, .unset, .unset] [(.ref b1)]))) st1 ?_
  refine Wp.back (U' := (T1.setTop (mkF m 9 #[.val (.ref ca), .val (.int (0 : Int32)), .val (.int (2 : Int32)), .val (.ref b1), .unset, .unset] [(.int (2 : Int32)), (.int (0 : Int32)), (.ref b1), (.int (0 : Int32)), (.ref ca)]))) (fun t k => XS.astoreN X1.here hx rfl (hb hby s2d9_3) rfl rfl (l' := #[.val (.ref ca), .val (.int (0 : Int32)), .val (.int (2 : Int32)), .val (.ref b1), .unset, .unset]) rfl (XS.aloadN X1.here hx rfl (hb hby s2d9_4) rfl rfl (XS.iloadN X1.here hx rfl (hb hby s2d9_5) rfl (XS.aloadN X1.here hx rfl (hb hby s2d9_6) rfl rfl (XT.iconstV X1.here hx rfl (0 : Int32) (hb hby s2d9_7) (by decide) (XS.iloadN X1.here hx rfl (hb hby s2d9_8) rfl k)))))) ?_
  obtain ⟨_, _, ⟨T3, L3, k3, n3⟩, -, X3, ⟨Lc3, hQ3, l3, y3, z3⟩, st3⟩ := Jvm.LawKit.callS X1 hx (y := (⟨"java/lang/StringUTF16", "compress", "([CI[BII)I"⟩ : MethodName)) hown (mvT hZ (hw _ (List.mem_of_getElem? (i := 67) rfl))) (mvT hZ (hw _ (List.mem_of_getElem? (i := 68) rfl))) (mvT hZ (hw _ (List.mem_of_getElem? (i := 65) rfl))) (mvT hZ (hw _ (List.mem_of_getElem? (i := 69) rfl))) (by decide) (backOf (W := 0) (rm_cp2_2 l Z a0 hw [] ca b1 kc c0 c1 k1 h1 n0 f2_0 f2_1 V1 g_b1 ne_ca_b1 h2550 h2551) hZ (hw _ (List.mem_of_getElem? (i := 69) rfl)) (hw _ (List.mem_of_getElem? (i := 65) rfl)) (by decide) (by decide)) (g := (mkF m 9 #[.val (.ref ca), .val (.int (0 : Int32)), .val (.int (2 : Int32)), .val (.ref b1), .unset, .unset] [(.int (2 : Int32)), (.int (0 : Int32)), (.ref b1), (.int (0 : Int32)), (.ref ca)])) rfl (by rw [hml]; rfl) (argsL := [(.ref ca), (.int (0 : Int32)), (.ref b1), (.int (0 : Int32)), (.int (2 : Int32))]) (rest := []) (lenOf s2pd9_0 rfl) rfl (by show 2 * 0 + _ ≤ _; exact Nat.le_of_eq rfl) (hb hby s2d9_9) (fun _ _ => ⟨rfl, e1, (by decide : 1 + 0 ≤ _), (by decide : 2 + 0 ≤ _)⟩)
  dsimp only [Pt.U, Pt.locs, Pt.cells, Pt.slots] at X3 l3 y3 z3 st3 hQ3
  subst l3 y3 z3
  obtain ⟨rfl, N3q, K3, o3_0⟩ := hQ3
  have f4_0 := Nat.le_trans f2_0 K3.1
  have f4_1 := f2_1.keep K3 (ninS ne_ca_b1 nin0)
  have f4_2 := f2_2.trans K3 (allS (Or.inr sz_b1) all0)
  have N3 := Fr.app N0 N3q
  refine Wp.back (U' := (T3.setTop (mkF m 12 #[.val (.ref ca), .val (.int (0 : Int32)), .val (.int (2 : Int32)), .val (.ref b1), .unset, .unset] [(.int (2 : Int32))]))) st3 ?_
  refine Wp.back (U' := (T3.setTop (mkF m 58 #[.val (.ref ca), .val (.int (0 : Int32)), .val (.int (2 : Int32)), .val (.ref b1), .val (.int (2 : Int32)), .unset] [(.ref b1)]))) (fun t k => XS.istore X3.here hx rfl (hb hby s2d9_12) rfl (l' := #[.val (.ref ca), .val (.int (0 : Int32)), .val (.int (2 : Int32)), .val (.ref b1), .val (.int (2 : Int32)), .unset]) rfl (XS.iload X3.here hx rfl (hb hby s2d9_14) rfl (XS.iloadN X3.here hx rfl (hb hby s2d9_16) rfl (XS.icmpYes X3.here hx rfl (pc0 := 17) (pc' := 57) rfl (hb hby s2d9_17) rfl (teq (by decide)).1 (by decide) (by decide) (XS.aloadN X3.here hx rfl (hb hby s2d9_57) rfl rfl k))))) ?_
  obtain ⟨fs, hr, hrun, hended, hW, hsame⟩ := X3.leave (v := (some (.ref b1))) (fun h => by rw [hret] at h; cases h)
  refine Wp.done (retOut X3 hx hret rfl (Or.inr (Or.inr (Or.inr (Or.inr ⟨rfl, rfl, rfl⟩)))) (hb hby s2d9_58) hr) hrun hended ⟨_, _, rfl, ?_, ⟨_, rfl⟩, hW, hsame.mono (by decide) (by decide)⟩
  show Q_cp1_2 Z ca kc c0 c1 h0 n0 _ T3.heap _
  exact ⟨b1, k1, rfl, N3, f4_2, sz_b1, o3_0⟩
def Q_cf_2 (Z : State) (ba : Addr) (kb : ClassId) (vs : List Value) (dv : Value) (h0 : Heap) (n0 : Nat) (v : Option Value) (h : Heap) (L : List Loc) : Prop := v = some (.int (0 : Int32)) ∧ Fr n0 L ∧ Keep h0 h []
theorem s2d11_0 : decode jdk_52_method_15_code 0 = .ok (.iload_n 1, 1) := by decide +kernel
theorem s2d11_1 : decode jdk_52_method_15_code 1 = .ok (.aload_n 0, 1) := by decide +kernel
theorem s2d11_2 : decode jdk_52_method_15_code 2 = .ok (.arraylength, 1) := by decide +kernel
theorem s2d11_3 : decode jdk_52_method_15_code 3 = .ok (.isub, 1) := by decide +kernel
theorem s2d11_4 : decode jdk_52_method_15_code 4 = .ok (.bipush 31, 2) := by decide +kernel
theorem s2d11_6 : decode jdk_52_method_15_code 6 = .ok (.iushr, 1) := by decide +kernel
theorem s2d11_7 : decode jdk_52_method_15_code 7 = .ok (.i2b, 1) := by decide +kernel
theorem s2d11_8 : decode jdk_52_method_15_code 8 = .ok (.ireturn, 1) := by decide +kernel
theorem s2pn11 : plainName "java/lang/StringUTF16" = true := by first | (simp [plainName, overriddenIn]; done) | decide +kernel
theorem s2ef11 (m : MethodId) (x0 : Addr) (x1 : Int32) : entryFrame m #[(.ref x0), (.int x1)] 2 = mkF m 0 #[.val (.ref x0), .val (.int x1)] [] := by first | (simp [entryFrame, mkF, argsToLocals, Value.category]; done) | rfl
set_option maxRecDepth 65536 in
set_option maxHeartbeats 40000000 in
theorem rm_cf_2 (l : Launch) (Z : State) (a0 : Array Value) (hw : ∀ d ∈ tables_1, d.before a0 Z = true) (ws : List Jvm.Cond) (ba : Addr) (kb : ClassId) (vs : List Value) (dv : Value) (h0 : Heap) (n0 : Nat) (Z0 : n0 ≤ h0.size) (H0 : Arv Z h0 ba kb .byte (2 : Int32) vs dv) :
    MetFree l (⟨"java/lang/StringUTF16", "coderFromArrayLen", "([BI)B"⟩ : MethodName) (head1 (Jvm.Cond.code (⟨"java/lang/StringUTF16", "coderFromArrayLen", "([BI)B"⟩ : MethodName) jdk_52_method_15_code 2 (some .byte) :: ws) ({ frames := 0, cells := 0, slots := 0, locals := 0 } : Room)) (fun a U => a = #[(.ref ba), (.int (2 : Int32))] ∧ Z.Warmed39 U.vm ∧ U.heap = h0) (fun _ _ _ _ _ => True) (fun _ U o U' => ∃ v L, o = .returned v ∧ Q_cf_2 Z ba kb vs dv h0 n0 v U'.heap L ∧ FrameEnd U o U' L ({ frames := 0, cells := 0, slots := 0, locals := 0 } : Room).cells ({ frames := 0, cells := 0, slots := 0, locals := 0 } : Room).slots) := by
  refine MetFree.of_bodySF (plainFor_of_name s2pn11) hisR ?_
  intro p e s m args below meth c s₁ Bd hml0 hP hK
  obtain ⟨rfl, hZ, hh⟩ := hP
  have hx := Bd.exec
  have hby := Bd.bytes
  have hret := Bd.returns
  have hlk := Bd.notSynchronized
  have hml : c.maxLocals = 2 := hml0
  have hown : s.vm.findClass "java/lang/StringUTF16" = some m.cls := findClass_of_methodNamed Bd.named
  have hnm := (name_of_methodNamed Bd.named Bd.method).1
  have X0 : Stand p l e ({ frames := 0, cells := 0, slots := 0, locals := 0 } : Room) s m #[(.ref ba), (.int (2 : Int32))] below meth c s₁ [] 0 0 := Stand.of_body Bd
  have e0 : s₁.heap = h0 := by rw [← hh, Bd.state]; rfl
  have N0 := Fr.nil n0
  show Wp p e below (fun o s₂ => ∃ v L, o = .returned v ∧ Q_cf_2 Z ba kb vs dv h0 n0 v s₂.heap L ∧ FrameEnd s o s₂ L ({ frames := 0, cells := 0, slots := 0, locals := 0 } : Room).cells ({ frames := 0, cells := 0, slots := 0, locals := 0 } : Room).slots) _
  refine Wp.back (U' := (s₁.setTop (mkF m 0 #[.val (.ref ba), .val (.int (2 : Int32))] []))) (fun t k => castTop (s2ef11 m ba (2 : Int32)) k) ?_
  refine Wp.back (U' := (s₁.setTop (mkF m 2 #[.val (.ref ba), .val (.int (2 : Int32))] [(.ref ba), (.int (2 : Int32))]))) (fun t k => XS.iloadN X0.here hx rfl (hb hby s2d11_0) rfl (XS.aloadN X0.here hx rfl (hb hby s2d11_1) rfl rfl k)) ?_
  have vq1 := H0
  obtain ⟨cl1, Ar1, -, qs1, qn1, -, -⟩ := vq1
  refine Wp.back (U' := (s₁.setTop (mkF m 3 #[.val (.ref ba), .val (.int (2 : Int32))] [(.int (2 : Int32)), (.int (2 : Int32))]))) (fun t k => X0.arraylength hx (by rw [e0]; exact Ar1.1) (State.isArrayOf_alike hZ.alike Ar1.2.1) (g := (mkF m 2 #[.val (.ref ba), .val (.int (2 : Int32))] [(.ref ba), (.int (2 : Int32))])) rfl rfl (hb hby s2d11_2) t (by rw [len_of qs1 qn1]; exact k)) ?_
  refine Wp.back (U' := (s₁.setTop (mkF m 8 #[.val (.ref ba), .val (.int (2 : Int32))] [(.int (0 : Int32))]))) (fun t k => XS.isub X0.here hx rfl (hb hby s2d11_3) rfl (XT.bipushV X0.here hx rfl (31 : Int32) (hb hby s2d11_4) (by decide) (XS.iushr X0.here hx rfl (hb hby s2d11_6) rfl (XS.i2b X0.here hx rfl (hb hby s2d11_7) rfl k)))) ?_
  obtain ⟨fs, hr, hrun, hended, hW, hsame⟩ := X0.leave (v := (some (.int (0 : Int32)))) (fun h => by rw [hret] at h; cases h)
  refine Wp.done (retN X0 hx (t := .byte) hret (by simp) (hb hby s2d11_8) hr) hrun hended ⟨_, _, rfl, ?_, ⟨_, rfl⟩, hW, hsame.mono (by decide) (by decide)⟩
  show Q_cf_2 Z ba kb vs dv h0 n0 _ s₁.heap _
  rw [e0]
  exact ⟨rfl, N0, (Keep.refl h0 [])⟩
def Q_si4_2 (Z : State) (ar : Addr) (ca : Addr) (kc : ClassId) (c0 : Int32) (c1 : Int32) (cs : Int32) (h0 : Heap) (n0 : Nat) (v : Option Value) (h : Heap) (L : List Loc) : Prop := ∃ fr0 : Addr, ∃ fk0 : ClassId, v = none ∧ Fr n0 L ∧ Keep h0 h [ar] ∧ h0.size ≤ fr0 ∧ Exa Z h ar "java/lang/String" ∧ Fld Z h ar "java/lang/String" "value" "[B" (.ref fr0) ∧ Fld Z h ar "java/lang/String" "coder" "B" (.int (0 : Int32)) ∧ Arv Z h fr0 fk0 .byte (2 : Int32) [(.int (nar .byte (c0).toInt8.toInt32)), (.int (nar .byte (c1).toInt8.toInt32))] (.int (0 : Int32))
theorem s2d3_0 : decode jdk_42_method_149_code 0 = .ok (.aload_n 0, 1) := by decide +kernel
theorem s2d3_1 : decode jdk_42_method_149_code 1 = .ok (.invokespecial 1, 3) := by decide +kernel
theorem s2d3_4 : decode jdk_42_method_149_code 4 = .ok (.iload_n 3, 1) := by decide +kernel
theorem s2d3_5 : decode jdk_42_method_149_code 5 = .ok (.ifCond .ne 22, 3) := by decide +kernel
theorem s2d3_27 : decode jdk_42_method_149_code 27 = .ok (.getstatic 38, 3) := by decide +kernel
theorem s2d3_30 : decode jdk_42_method_149_code 30 = .ok (.ifCond .eq 28, 3) := by decide +kernel
theorem s2d3_33 : decode jdk_42_method_149_code 33 = .ok (.aload_n 1, 1) := by decide +kernel
theorem s2d3_34 : decode jdk_42_method_149_code 34 = .ok (.iload_n 2, 1) := by decide +kernel
theorem s2d3_35 : decode jdk_42_method_149_code 35 = .ok (.iload_n 3, 1) := by decide +kernel
theorem s2d3_36 : decode jdk_42_method_149_code 36 = .ok (.invokestatic 177, 3) := by decide +kernel
theorem s2d3_39 : decode jdk_42_method_149_code 39 = .ok (.astore 5, 2) := by decide +kernel
theorem s2d3_41 : decode jdk_42_method_149_code 41 = .ok (.aload_n 0, 1) := by decide +kernel
theorem s2d3_42 : decode jdk_42_method_149_code 42 = .ok (.aload 5, 2) := by decide +kernel
theorem s2d3_44 : decode jdk_42_method_149_code 44 = .ok (.iload_n 3, 1) := by decide +kernel
theorem s2d3_45 : decode jdk_42_method_149_code 45 = .ok (.invokestatic 47, 3) := by decide +kernel
theorem s2d3_48 : decode jdk_42_method_149_code 48 = .ok (.putfield 15, 3) := by decide +kernel
theorem s2d3_51 : decode jdk_42_method_149_code 51 = .ok (.aload_n 0, 1) := by decide +kernel
theorem s2d3_52 : decode jdk_42_method_149_code 52 = .ok (.aload 5, 2) := by decide +kernel
theorem s2d3_54 : decode jdk_42_method_149_code 54 = .ok (.putfield 9, 3) := by decide +kernel
theorem s2d3_57 : decode jdk_42_method_149_code 57 = .ok (.return_, 1) := by decide +kernel
theorem s2pd3_0 : parseMethodDescriptor "([CII)[B" = some ⟨[(.array .char), .int, .int], some (.array .byte)⟩ := by decide +kernel
theorem s2pd3_1 : parseMethodDescriptor "([BI)B" = some ⟨[(.array .byte), .int], some .byte⟩ := by decide +kernel
theorem s2pn3 : plainName "java/lang/String" = true := by first | (simp [plainName, overriddenIn]; done) | decide +kernel
theorem s2ef3 (m : MethodId) (x0 : Addr) (x1 : Addr) (x2 : Int32) (x3 : Int32) : entryFrame m #[(.ref x0), (.ref x1), (.int x2), (.int x3), .null] 6 = mkF m 0 #[.val (.ref x0), .val (.ref x1), .val (.int x2), .val (.int x3), .val .null, .unset] [] := by first | (simp [entryFrame, mkF, argsToLocals, Value.category]; done) | rfl
set_option maxRecDepth 65536 in
set_option maxHeartbeats 40000000 in
theorem rm_si4_2 (l : Launch) (Z : State) (a0 : Array Value) (hw : ∀ d ∈ tables_1, d.before a0 Z = true) (ws : List Jvm.Cond) (ar : Addr) (ca : Addr) (kc : ClassId) (c0 : Int32) (c1 : Int32) (cs : Int32) (h0 : Heap) (n0 : Nat) (Z0 : n0 ≤ h0.size) (H0 : Exa Z h0 ar "java/lang/String") (H1 : Fld Z h0 ar "java/lang/String" "value" "[B" .null) (H2 : Fld Z h0 ar "java/lang/String" "coder" "B" (.int (0 : Int32))) (H3 : Arv Z h0 ca kc .char (2 : Int32) [(.int c0), (.int c1)] (.int (0 : Int32))) (H4 : Sta Z h0 "java/lang/String" "COMPACT_STRINGS" "Z" (.int cs)) (g_ar : n0 ≤ ar) (ne_ca_ar : ca ≠ ar) (h2550 : ¬ (255 : Int32) < c0) (h2551 : ¬ (255 : Int32) < c1) (hcs : ¬ cs = (0 : Int32)) :
    MetFree l (⟨"java/lang/String", "<init>", "([CIILjava/lang/Void;)V"⟩ : MethodName) (head1 (Jvm.Cond.code (⟨"java/lang/String", "<init>", "([CIILjava/lang/Void;)V"⟩ : MethodName) jdk_42_method_149_code 6 none :: ws) ({ frames := 2, cells := 1, slots := 2, locals := 35 } : Room)) (fun a U => a = #[(.ref ar), (.ref ca), (.int (0 : Int32)), (.int (2 : Int32)), .null] ∧ Z.Warmed39 U.vm ∧ U.heap = h0) (fun _ _ _ _ _ => True) (fun _ U o U' => ∃ v L, o = .returned v ∧ Q_si4_2 Z ar ca kc c0 c1 cs h0 n0 v U'.heap L ∧ FrameEnd U o U' L ({ frames := 2, cells := 1, slots := 2, locals := 35 } : Room).cells ({ frames := 2, cells := 1, slots := 2, locals := 35 } : Room).slots) := by
  refine MetFree.of_bodySF (plainFor_of_name s2pn3) hisR ?_
  intro p e s m args below meth c s₁ Bd hml0 hP hK
  obtain ⟨rfl, hZ, hh⟩ := hP
  have hx := Bd.exec
  have hby := Bd.bytes
  have hret := Bd.returns
  have hlk := Bd.notSynchronized
  have hml : c.maxLocals = 6 := hml0
  have hown : s.vm.findClass "java/lang/String" = some m.cls := findClass_of_methodNamed Bd.named
  have hnm := (name_of_methodNamed Bd.named Bd.method).1
  have X0 : Stand p l e ({ frames := 2, cells := 1, slots := 2, locals := 35 } : Room) s m #[(.ref ar), (.ref ca), (.int (0 : Int32)), (.int (2 : Int32)), .null] below meth c s₁ [] 0 0 := Stand.of_body Bd
  have e0 : s₁.heap = h0 := by rw [← hh, Bd.state]; rfl
  have N0 := Fr.nil n0
  show Wp p e below (fun o s₂ => ∃ v L, o = .returned v ∧ Q_si4_2 Z ar ca kc c0 c1 cs h0 n0 v s₂.heap L ∧ FrameEnd s o s₂ L ({ frames := 2, cells := 1, slots := 2, locals := 35 } : Room).cells ({ frames := 2, cells := 1, slots := 2, locals := 35 } : Room).slots) _
  refine Wp.back (U' := (s₁.setTop (mkF m 0 #[.val (.ref ar), .val (.ref ca), .val (.int (0 : Int32)), .val (.int (2 : Int32)), .val .null, .unset] []))) (fun t k => castTop (s2ef3 m ar ca (0 : Int32) (2 : Int32)) k) ?_
  refine Wp.back (U' := (s₁.setTop (mkF m 1 #[.val (.ref ar), .val (.ref ca), .val (.int (0 : Int32)), .val (.int (2 : Int32)), .val .null, .unset] [(.ref ar)]))) (fun t k => XS.aloadN X0.here hx rfl (hb hby s2d3_0) rfl rfl k) ?_
  obtain ⟨T1, X1, e1, st1⟩ := initO X0 hx hZ hown (hw _ (List.mem_of_getElem? (i := 16) rfl)) (hw _ (List.mem_of_getElem? (i := 17) rfl)) (hw _ (List.mem_of_getElem? (i := 18) rfl)) e0 (g := (mkF m 1 #[.val (.ref ar), .val (.ref ca), .val (.int (0 : Int32)), .val (.int (2 : Int32)), .val .null, .unset] [(.ref ar)])) rfl (by rw [hml]; rfl) rfl (hb hby s2d3_1) (by decide) (W := 0) (by show 2 * 0 + _ ≤ _; exact Nat.le_of_eq rfl) (by decide)
  refine Wp.back (U' := (T1.setTop (mkF m 4 #[.val (.ref ar), .val (.ref ca), .val (.int (0 : Int32)), .val (.int (2 : Int32)), .val .null, .unset] []))) st1 ?_
  refine Wp.back (U' := (T1.setTop (mkF m 27 #[.val (.ref ar), .val (.ref ca), .val (.int (0 : Int32)), .val (.int (2 : Int32)), .val .null, .unset] []))) (fun t k => XS.iloadN X1.here hx rfl (hb hby s2d3_4) rfl (XS.ifYes X1.here hx rfl (pc0 := 5) (pc' := 27) rfl (hb hby s2d3_5) rfl ((if0 _ _).trans (feq (by decide)).2) (by decide) (by decide) k)) ?_
  obtain ⟨T2, X2, e2, st2⟩ := getS2 X1 hx hZ hown (host := "") (Or.inl (hw _ (List.mem_of_getElem? (i := 62) rfl))) Via.refl e1 H4 (g := (mkF m 27 #[.val (.ref ar), .val (.ref ca), .val (.int (0 : Int32)), .val (.int (2 : Int32)), .val .null, .unset] [])) rfl (hb hby s2d3_27)
  refine Wp.back (U' := (T2.setTop (mkF m 30 #[.val (.ref ar), .val (.ref ca), .val (.int (0 : Int32)), .val (.int (2 : Int32)), .val .null, .unset] [(.int cs)]))) st2 ?_
  refine Wp.back (U' := (T2.setTop (mkF m 36 #[.val (.ref ar), .val (.ref ca), .val (.int (0 : Int32)), .val (.int (2 : Int32)), .val .null, .unset] [(.int (2 : Int32)), (.int (0 : Int32)), (.ref ca)]))) (fun t k => XS.ifNo X2.here hx rfl (hb hby s2d3_30) rfl ((if0 _ _).trans (feq hcs).1) (XS.aloadN X2.here hx rfl (hb hby s2d3_33) rfl rfl (XS.iloadN X2.here hx rfl (hb hby s2d3_34) rfl (XS.iloadN X2.here hx rfl (hb hby s2d3_35) rfl k)))) ?_
  obtain ⟨_, _, ⟨T3, L3, k3, n3⟩, -, X3, ⟨Lc3, hQ3, l3, y3, z3⟩, st3⟩ := Jvm.LawKit.callS X2 hx (y := (⟨"java/lang/StringUTF16", "compress", "([CII)[B"⟩ : MethodName)) hown (mvT hZ (hw _ (List.mem_of_getElem? (i := 63) rfl))) (mvT hZ (hw _ (List.mem_of_getElem? (i := 64) rfl))) (mvT hZ (hw _ (List.mem_of_getElem? (i := 65) rfl))) (mvT hZ (hw _ (List.mem_of_getElem? (i := 66) rfl))) (by decide) (backOf (W := 0) (rm_cp1_2 l Z a0 hw [] ca kc c0 c1 h0 n0 Z0 H3 h2550 h2551) hZ (hw _ (List.mem_of_getElem? (i := 66) rfl)) (hw _ (List.mem_of_getElem? (i := 65) rfl)) (by decide) (by decide)) (g := (mkF m 36 #[.val (.ref ar), .val (.ref ca), .val (.int (0 : Int32)), .val (.int (2 : Int32)), .val .null, .unset] [(.int (2 : Int32)), (.int (0 : Int32)), (.ref ca)])) rfl (by rw [hml]; rfl) (argsL := [(.ref ca), (.int (0 : Int32)), (.int (2 : Int32))]) (rest := []) (lenOf s2pd3_0 rfl) rfl (by show 2 * 0 + _ ≤ _; exact Nat.le_of_eq rfl) (hb hby s2d3_36) (fun _ _ => ⟨rfl, e2, (by decide : 0 + 1 ≤ _), (by decide : 0 + 2 ≤ _)⟩)
  dsimp only [Pt.U, Pt.locs, Pt.cells, Pt.slots] at X3 l3 y3 z3 st3 hQ3
  subst l3 y3 z3
  obtain ⟨b3_0, k3_0, rfl, N3q, K3, sf3_0, o3_0⟩ := hQ3
  have ne_ar_b3_0 : ar ≠ b3_0 := Nat.ne_of_lt (Nat.lt_of_lt_of_le H0.lt sf3_0)
  have ne_ca_b3_0 : ca ≠ b3_0 := Nat.ne_of_lt (Nat.lt_of_lt_of_le H3.lt sf3_0)
  have g_b3_0 : n0 ≤ b3_0 := Nat.le_trans Z0 sf3_0
  have sz_b3_0 : h0.size ≤ b3_0 := Nat.le_trans (Keep.refl h0 [ar]).1 sf3_0
  have f4_0 := Nat.le_trans Z0 K3.1
  have f4_1 := H0.keep K3
  have f4_2 := H1.keep K3 nin0
  have f4_3 := H2.keep K3 nin0
  have f4_4 := H3.keep K3 nin0
  have f4_5 := Sta_keep0 H4 K3
  have f4_6 := (Keep.refl h0 [ar]).trans K3 all0
  have N3 := Fr.app N0 N3q
  refine Wp.back (U' := (T3.setTop (mkF m 39 #[.val (.ref ar), .val (.ref ca), .val (.int (0 : Int32)), .val (.int (2 : Int32)), .val .null, .unset] [(.ref b3_0)]))) st3 ?_
  refine Wp.back (U' := (T3.setTop (mkF m 45 #[.val (.ref ar), .val (.ref ca), .val (.int (0 : Int32)), .val (.int (2 : Int32)), .val .null, .val (.ref b3_0)] [(.int (2 : Int32)), (.ref b3_0), (.ref ar)]))) (fun t k => XS.astore X3.here hx rfl (hb hby s2d3_39) rfl rfl (l' := #[.val (.ref ar), .val (.ref ca), .val (.int (0 : Int32)), .val (.int (2 : Int32)), .val .null, .val (.ref b3_0)]) rfl (XS.aloadN X3.here hx rfl (hb hby s2d3_41) rfl rfl (XS.aload X3.here hx rfl (hb hby s2d3_42) rfl rfl (XS.iloadN X3.here hx rfl (hb hby s2d3_44) rfl k)))) ?_
  obtain ⟨_, _, ⟨T5, L5, k5, n5⟩, -, X5, ⟨Lc5, hQ5, l5, y5, z5⟩, st5⟩ := Jvm.LawKit.callS X3 hx (y := (⟨"java/lang/StringUTF16", "coderFromArrayLen", "([BI)B"⟩ : MethodName)) hown (mvT hZ (hw _ (List.mem_of_getElem? (i := 70) rfl))) (mvT hZ (hw _ (List.mem_of_getElem? (i := 71) rfl))) (mvT hZ (hw _ (List.mem_of_getElem? (i := 65) rfl))) (mvT hZ (hw _ (List.mem_of_getElem? (i := 72) rfl))) (by decide) (backOf (W := 1) (rm_cf_2 l Z a0 hw [] b3_0 k3_0 [(.int (nar .byte (c0).toInt8.toInt32)), (.int (nar .byte (c1).toInt8.toInt32))] (.int (0 : Int32)) T3.heap n0 f4_0 o3_0) hZ (hw _ (List.mem_of_getElem? (i := 72) rfl)) (hw _ (List.mem_of_getElem? (i := 65) rfl)) (by decide) (by decide)) (g := (mkF m 45 #[.val (.ref ar), .val (.ref ca), .val (.int (0 : Int32)), .val (.int (2 : Int32)), .val .null, .val (.ref b3_0)] [(.int (2 : Int32)), (.ref b3_0), (.ref ar)])) rfl (by rw [hml]; rfl) (argsL := [(.ref b3_0), (.int (2 : Int32))]) (rest := [(.ref ar)]) (lenOf s2pd3_1 rfl) rfl (by show 2 * 0 + _ ≤ _; exact Nat.le_of_eq rfl) (hb hby s2d3_45) (fun _ _ => ⟨rfl, rfl, (by decide : 1 + 0 ≤ _), (by decide : 2 + 0 ≤ _)⟩)
  dsimp only [Pt.U, Pt.locs, Pt.cells, Pt.slots] at X5 l5 y5 z5 st5 hQ5
  subst l5 y5 z5
  obtain ⟨rfl, N5q, K5⟩ := hQ5
  have f6_0 := Nat.le_trans f4_0 K5.1
  have f6_1 := f4_1.keep K5
  have f6_2 := f4_2.keep K5 nin0
  have f6_3 := f4_3.keep K5 nin0
  have f6_4 := f4_4.keep K5 nin0
  have f6_5 := Sta_keep0 f4_5 K5
  have f6_6 := f4_6.trans K5 all0
  have f6_7 := o3_0.keep K5 nin0
  have N5 := Fr.app N3 N5q
  refine Wp.back (U' := (T5.setTop (mkF m 48 #[.val (.ref ar), .val (.ref ca), .val (.int (0 : Int32)), .val (.int (2 : Int32)), .val .null, .val (.ref b3_0)] [(.int (0 : Int32)), (.ref ar)]))) st5 ?_
  obtain ⟨T7, h7, X7, e7, W7, st7⟩ := putFN X5 hx hZ hown (hw _ (List.mem_of_getElem? (i := 26) rfl)) Via.refl rfl f6_3 f6_1 (Or.inr ⟨(hw _ (List.mem_of_getElem? (i := 22) rfl)), rfl, hnm⟩) (hw _ (List.mem_of_getElem? (i := 6) rfl)) (ty := .byte) (v' := .int (0 : Int32)) (by decide) rfl rfl (g := (mkF m 48 #[.val (.ref ar), .val (.ref ca), .val (.int (0 : Int32)), .val (.int (2 : Int32)), .val .null, .val (.ref b3_0)] [(.int (0 : Int32)), (.ref ar)])) rfl rfl (hb hby s2d3_48)
  have Fw7 := f6_3.same W7
  have f8_0 := Nat.le_trans f6_0 (Keep.of_wr W7).1
  have f8_1 := f6_1.wr W7
  have f8_2 := f6_2.other W7 (Or.inr (slot_ne (Or.inr (hw _ (List.mem_of_getElem? (i := 21) rfl))) (Or.inr (hw _ (List.mem_of_getElem? (i := 22) rfl))) (by decide) (t := (.array .byte)) (t' := .byte) (by decide) (by decide)))
  have f8_3 := f6_4.other W7 ne_ca_ar
  have f8_4 := f6_5.wr W7
  have f8_5 := f6_6.wr W7 (Or.inl (List.mem_of_getElem? (i := 0) rfl))
  have f8_6 := f6_7.other W7 (Ne.symm ne_ar_b3_0)
  have N7 := Fr.snoc X7 N5 g_ar
  refine Wp.back (U' := (T7.setTop (mkF m 51 #[.val (.ref ar), .val (.ref ca), .val (.int (0 : Int32)), .val (.int (2 : Int32)), .val .null, .val (.ref b3_0)] []))) st7 ?_
  refine Wp.back (U' := (T7.setTop (mkF m 54 #[.val (.ref ar), .val (.ref ca), .val (.int (0 : Int32)), .val (.int (2 : Int32)), .val .null, .val (.ref b3_0)] [(.ref b3_0), (.ref ar)]))) (fun t k => XS.aloadN X7.here hx rfl (hb hby s2d3_51) rfl rfl (XS.aload X7.here hx rfl (hb hby s2d3_52) rfl rfl k)) ?_
  obtain ⟨T9, h9, X9, e9, W9, st9⟩ := putF X7 hx hZ hown (host := "") (Or.inl (hw _ (List.mem_of_getElem? (i := 25) rfl))) Via.refl e7 f8_2 f8_1 (Or.inr ⟨(hw _ (List.mem_of_getElem? (i := 21) rfl)), rfl, hnm⟩) (hw _ (List.mem_of_getElem? (i := 6) rfl)) (ty := (.array .byte)) (by decide) rfl rfl (g := (mkF m 54 #[.val (.ref ar), .val (.ref ca), .val (.int (0 : Int32)), .val (.int (2 : Int32)), .val .null, .val (.ref b3_0)] [(.ref b3_0), (.ref ar)])) rfl rfl (hb hby s2d3_54)
  have Fw9 := f8_2.same W9
  have f10_0 := Nat.le_trans f8_0 (Keep.of_wr W9).1
  have f10_1 := f8_1.wr W9
  have f10_2 := f8_3.other W9 ne_ca_ar
  have f10_3 := f8_4.wr W9
  have f10_4 := f8_5.wr W9 (Or.inl (List.mem_of_getElem? (i := 0) rfl))
  have f10_5 := f8_6.other W9 (Ne.symm ne_ar_b3_0)
  have f10_6 := Fw7.other W9 (Or.inr (slot_ne (Or.inr (hw _ (List.mem_of_getElem? (i := 22) rfl))) (Or.inr (hw _ (List.mem_of_getElem? (i := 21) rfl))) (by decide) (t := .byte) (t' := (.array .byte)) (by decide) (by decide)))
  have N9 := Fr.snoc X9 N7 g_ar
  refine Wp.back (U' := (T9.setTop (mkF m 57 #[.val (.ref ar), .val (.ref ca), .val (.int (0 : Int32)), .val (.int (2 : Int32)), .val .null, .val (.ref b3_0)] []))) st9 ?_
  obtain ⟨fs, hr, hrun, hended, hW, hsame⟩ := X9.leave (v := none) (fun _ => rfl)
  refine Wp.done (X9.returnOut hx hret (hb hby s2d3_57) hr) hrun hended ⟨_, _, rfl, ?_, ⟨_, rfl⟩, hW, hsame.mono (by decide) (by decide)⟩
  show Q_si4_2 Z ar ca kc c0 c1 cs h0 n0 _ T9.heap _
  rw [e9]
  exact ⟨b3_0, k3_0, rfl, N9, f10_4, sz_b3_0, f10_1, Fw9, f10_6, f10_5⟩
def Q_si1_2 (Z : State) (ar : Addr) (ca : Addr) (kc : ClassId) (c0 : Int32) (c1 : Int32) (cs : Int32) (h0 : Heap) (n0 : Nat) (v : Option Value) (h : Heap) (L : List Loc) : Prop := ∃ fr0 : Addr, ∃ fk0 : ClassId, v = none ∧ Fr n0 L ∧ Keep h0 h [ar] ∧ h0.size ≤ fr0 ∧ Exa Z h ar "java/lang/String" ∧ Fld Z h ar "java/lang/String" "value" "[B" (.ref fr0) ∧ Fld Z h ar "java/lang/String" "coder" "B" (.int (0 : Int32)) ∧ Arv Z h fr0 fk0 .byte (2 : Int32) [(.int (nar .byte (c0).toInt8.toInt32)), (.int (nar .byte (c1).toInt8.toInt32))] (.int (0 : Int32))
theorem s2d2_0 : decode jdk_42_method_3_code 0 = .ok (.aload_n 0, 1) := by decide +kernel
theorem s2d2_1 : decode jdk_42_method_3_code 1 = .ok (.aload_n 1, 1) := by decide +kernel
theorem s2d2_2 : decode jdk_42_method_3_code 2 = .ok (.iconst 0, 1) := by decide +kernel
theorem s2d2_3 : decode jdk_42_method_3_code 3 = .ok (.aload_n 1, 1) := by decide +kernel
theorem s2d2_4 : decode jdk_42_method_3_code 4 = .ok (.arraylength, 1) := by decide +kernel
theorem s2d2_5 : decode jdk_42_method_3_code 5 = .ok (.aconst_null, 1) := by decide +kernel
theorem s2d2_6 : decode jdk_42_method_3_code 6 = .ok (.invokespecial 27, 3) := by decide +kernel
theorem s2d2_9 : decode jdk_42_method_3_code 9 = .ok (.return_, 1) := by decide +kernel
theorem s2pd2_0 : parseMethodDescriptor "([CIILjava/lang/Void;)V" = some ⟨[(.array .char), .int, .int, (.object "java/lang/Void")], none⟩ := by decide +kernel
theorem s2pn2 : plainName "java/lang/String" = true := by first | (simp [plainName, overriddenIn]; done) | decide +kernel
theorem s2ef2 (m : MethodId) (x0 : Addr) (x1 : Addr) : entryFrame m #[(.ref x0), (.ref x1)] 2 = mkF m 0 #[.val (.ref x0), .val (.ref x1)] [] := by first | (simp [entryFrame, mkF, argsToLocals, Value.category]; done) | rfl
set_option maxRecDepth 65536 in
set_option maxHeartbeats 40000000 in
theorem rm_si1_2 (l : Launch) (Z : State) (a0 : Array Value) (hw : ∀ d ∈ tables_1, d.before a0 Z = true) (ws : List Jvm.Cond) (ar : Addr) (ca : Addr) (kc : ClassId) (c0 : Int32) (c1 : Int32) (cs : Int32) (h0 : Heap) (n0 : Nat) (Z0 : n0 ≤ h0.size) (H0 : Exa Z h0 ar "java/lang/String") (H1 : Fld Z h0 ar "java/lang/String" "value" "[B" .null) (H2 : Fld Z h0 ar "java/lang/String" "coder" "B" (.int (0 : Int32))) (H3 : Arv Z h0 ca kc .char (2 : Int32) [(.int c0), (.int c1)] (.int (0 : Int32))) (H4 : Sta Z h0 "java/lang/String" "COMPACT_STRINGS" "Z" (.int cs)) (g_ar : n0 ≤ ar) (ne_ca_ar : ca ≠ ar) (h2550 : ¬ (255 : Int32) < c0) (h2551 : ¬ (255 : Int32) < c1) (hcs : ¬ cs = (0 : Int32)) :
    MetFree l (⟨"java/lang/String", "<init>", "([C)V"⟩ : MethodName) (head1 (Jvm.Cond.code (⟨"java/lang/String", "<init>", "([C)V"⟩ : MethodName) jdk_42_method_3_code 2 none :: ws) ({ frames := 3, cells := 1, slots := 2, locals := 52 } : Room)) (fun a U => a = #[(.ref ar), (.ref ca)] ∧ Z.Warmed39 U.vm ∧ U.heap = h0) (fun _ _ _ _ _ => True) (fun _ U o U' => ∃ v L, o = .returned v ∧ Q_si1_2 Z ar ca kc c0 c1 cs h0 n0 v U'.heap L ∧ FrameEnd U o U' L ({ frames := 3, cells := 1, slots := 2, locals := 52 } : Room).cells ({ frames := 3, cells := 1, slots := 2, locals := 52 } : Room).slots) := by
  refine MetFree.of_bodySF (plainFor_of_name s2pn2) hisR ?_
  intro p e s m args below meth c s₁ Bd hml0 hP hK
  obtain ⟨rfl, hZ, hh⟩ := hP
  have hx := Bd.exec
  have hby := Bd.bytes
  have hret := Bd.returns
  have hlk := Bd.notSynchronized
  have hml : c.maxLocals = 2 := hml0
  have hown : s.vm.findClass "java/lang/String" = some m.cls := findClass_of_methodNamed Bd.named
  have hnm := (name_of_methodNamed Bd.named Bd.method).1
  have X0 : Stand p l e ({ frames := 3, cells := 1, slots := 2, locals := 52 } : Room) s m #[(.ref ar), (.ref ca)] below meth c s₁ [] 0 0 := Stand.of_body Bd
  have e0 : s₁.heap = h0 := by rw [← hh, Bd.state]; rfl
  have N0 := Fr.nil n0
  show Wp p e below (fun o s₂ => ∃ v L, o = .returned v ∧ Q_si1_2 Z ar ca kc c0 c1 cs h0 n0 v s₂.heap L ∧ FrameEnd s o s₂ L ({ frames := 3, cells := 1, slots := 2, locals := 52 } : Room).cells ({ frames := 3, cells := 1, slots := 2, locals := 52 } : Room).slots) _
  refine Wp.back (U' := (s₁.setTop (mkF m 0 #[.val (.ref ar), .val (.ref ca)] []))) (fun t k => castTop (s2ef2 m ar ca) k) ?_
  refine Wp.back (U' := (s₁.setTop (mkF m 4 #[.val (.ref ar), .val (.ref ca)] [(.ref ca), (.int (0 : Int32)), (.ref ca), (.ref ar)]))) (fun t k => XS.aloadN X0.here hx rfl (hb hby s2d2_0) rfl rfl (XS.aloadN X0.here hx rfl (hb hby s2d2_1) rfl rfl (XT.iconstV X0.here hx rfl (0 : Int32) (hb hby s2d2_2) (by decide) (XS.aloadN X0.here hx rfl (hb hby s2d2_3) rfl rfl k)))) ?_
  have vq1 := H3
  obtain ⟨cl1, Ar1, -, qs1, qn1, -, -⟩ := vq1
  refine Wp.back (U' := (s₁.setTop (mkF m 5 #[.val (.ref ar), .val (.ref ca)] [(.int (2 : Int32)), (.int (0 : Int32)), (.ref ca), (.ref ar)]))) (fun t k => X0.arraylength hx (by rw [e0]; exact Ar1.1) (State.isArrayOf_alike hZ.alike Ar1.2.1) (g := (mkF m 4 #[.val (.ref ar), .val (.ref ca)] [(.ref ca), (.int (0 : Int32)), (.ref ca), (.ref ar)])) rfl rfl (hb hby s2d2_4) t (by rw [len_of qs1 qn1]; exact k)) ?_
  refine Wp.back (U' := (s₁.setTop (mkF m 6 #[.val (.ref ar), .val (.ref ca)] [.null, (.int (2 : Int32)), (.int (0 : Int32)), (.ref ca), (.ref ar)]))) (fun t k => XS.aconstNull X0.here hx rfl (hb hby s2d2_5) k) ?_
  obtain ⟨_, _, ⟨T2, L2, k2, n2⟩, -, X2, ⟨Lc2, hQ2, l2, y2, z2⟩, st2⟩ := X0.specialBack hx (y := (⟨"java/lang/String", "<init>", "([CIILjava/lang/Void;)V"⟩ : MethodName)) rfl hown (mvT hZ (hw _ (List.mem_of_getElem? (i := 12) rfl))) (mvT hZ (hw _ (List.mem_of_getElem? (i := 13) rfl))) (mvT hZ (hw _ (List.mem_of_getElem? (i := 15) rfl))) (by decide) (backOf (W := 0) (rm_si4_2 l Z a0 hw [] ar ca kc c0 c1 cs h0 n0 Z0 H0 H1 H2 H3 H4 g_ar ne_ca_ar h2550 h2551 hcs) hZ (hw _ (List.mem_of_getElem? (i := 15) rfl)) (hw _ (List.mem_of_getElem? (i := 7) rfl)) (by decide) (by decide)) (g := (mkF m 6 #[.val (.ref ar), .val (.ref ca)] [.null, (.int (2 : Int32)), (.int (0 : Int32)), (.ref ca), (.ref ar)])) rfl (by rw [hml]; rfl) (Steps.refl _) (a := ar) (argsL := [(.ref ca), (.int (0 : Int32)), (.int (2 : Int32)), .null]) (rest := []) (lenOf s2pd2_0 rfl) rfl (by show 2 * 0 + _ ≤ _; exact Nat.le_of_eq rfl) (hb hby s2d2_6) (fun _ _ => ⟨rfl, e0, (by decide : 0 + 1 ≤ _), (by decide : 0 + 2 ≤ _)⟩)
  dsimp only [Pt.U, Pt.locs, Pt.cells, Pt.slots] at X2 l2 y2 z2 st2 hQ2
  subst l2 y2 z2
  obtain ⟨b2_0, k2_0, rfl, N2q, K2, sf2_0, o2_0, o2_1, o2_2, o2_3⟩ := hQ2
  have ne_ar_b2_0 : ar ≠ b2_0 := Nat.ne_of_lt (Nat.lt_of_lt_of_le H0.lt sf2_0)
  have ne_ca_b2_0 : ca ≠ b2_0 := Nat.ne_of_lt (Nat.lt_of_lt_of_le H3.lt sf2_0)
  have g_b2_0 : n0 ≤ b2_0 := Nat.le_trans Z0 sf2_0
  have sz_b2_0 : h0.size ≤ b2_0 := Nat.le_trans (Keep.refl h0 [ar]).1 sf2_0
  have f3_0 := Nat.le_trans Z0 K2.1
  have f3_1 := H0.keep K2
  have f3_4 := H3.keep K2 (ninS ne_ca_ar nin0)
  have f3_5 := Sta_keep H4 K2 (allS (Exa_ns H0) all0)
  have f3_6 := (Keep.refl h0 [ar]).trans K2 (allS (Or.inl (List.mem_of_getElem? (i := 0) rfl)) all0)
  have N2 := Fr.app N0 N2q
  refine Wp.back (U' := (T2.setTop (mkF m 9 #[.val (.ref ar), .val (.ref ca)] []))) (fun t k => st2.trans k) ?_
  obtain ⟨fs, hr, hrun, hended, hW, hsame⟩ := X2.leave (v := none) (fun _ => rfl)
  refine Wp.done (X2.returnOut hx hret (hb hby s2d2_9) hr) hrun hended ⟨_, _, rfl, ?_, ⟨_, rfl⟩, hW, hsame.mono (by decide) (by decide)⟩
  show Q_si1_2 Z ar ca kc c0 c1 cs h0 n0 _ T2.heap _
  exact ⟨b2_0, k2_0, rfl, N2, f3_6, sz_b2_0, o2_0, o2_1, o2_2, o2_3⟩
def Q_si4_0 (Z : State) (ar : Addr) (ca : Addr) (kc : ClassId) (h0 : Heap) (n0 : Nat) (v : Option Value) (h : Heap) (L : List Loc) : Prop := ∃ ex0 : Addr, ∃ fk0 : ClassId, v = none ∧ Fr n0 L ∧ Keep h0 h [ar] ∧ Exa Z h ar "java/lang/String" ∧ Fld Z h ar "java/lang/String" "value" "[B" (.ref ex0) ∧ Fld Z h ar "java/lang/String" "coder" "B" (.int (0 : Int32)) ∧ Arv Z h ex0 fk0 .byte (0 : Int32) [] (.int 0)
theorem s0d3_0 : decode jdk_42_method_149_code 0 = .ok (.aload_n 0, 1) := by decide +kernel
theorem s0d3_1 : decode jdk_42_method_149_code 1 = .ok (.invokespecial 1, 3) := by decide +kernel
theorem s0d3_4 : decode jdk_42_method_149_code 4 = .ok (.iload_n 3, 1) := by decide +kernel
theorem s0d3_5 : decode jdk_42_method_149_code 5 = .ok (.ifCond .ne 22, 3) := by decide +kernel
theorem s0d3_8 : decode jdk_42_method_149_code 8 = .ok (.aload_n 0, 1) := by decide +kernel
theorem s0d3_9 : decode jdk_42_method_149_code 9 = .ok (.ldc 7, 2) := by decide +kernel
theorem s0d3_11 : decode jdk_42_method_149_code 11 = .ok (.getfield 9, 3) := by decide +kernel
theorem s0d3_14 : decode jdk_42_method_149_code 14 = .ok (.putfield 9, 3) := by decide +kernel
theorem s0d3_17 : decode jdk_42_method_149_code 17 = .ok (.aload_n 0, 1) := by decide +kernel
theorem s0d3_18 : decode jdk_42_method_149_code 18 = .ok (.ldc 7, 2) := by decide +kernel
theorem s0d3_20 : decode jdk_42_method_149_code 20 = .ok (.getfield 15, 3) := by decide +kernel
theorem s0d3_23 : decode jdk_42_method_149_code 23 = .ok (.putfield 15, 3) := by decide +kernel
theorem s0d3_26 : decode jdk_42_method_149_code 26 = .ok (.return_, 1) := by decide +kernel
theorem s0pn3 : plainName "java/lang/String" = true := by first | (simp [plainName, overriddenIn]; done) | decide +kernel
theorem s0ef3 (m : MethodId) (x0 : Addr) (x1 : Addr) (x2 : Int32) (x3 : Int32) : entryFrame m #[(.ref x0), (.ref x1), (.int x2), (.int x3), .null] 6 = mkF m 0 #[.val (.ref x0), .val (.ref x1), .val (.int x2), .val (.int x3), .val .null, .unset] [] := by first | (simp [entryFrame, mkF, argsToLocals, Value.category]; done) | rfl
set_option maxRecDepth 65536 in
set_option maxHeartbeats 40000000 in
theorem rm_si4_0 (l : Launch) (Z : State) (a0 : Array Value) (hw : ∀ d ∈ tables_1, d.before a0 Z = true) (ws : List Jvm.Cond) (ar : Addr) (ca : Addr) (kc : ClassId) (h0 : Heap) (n0 : Nat) (Z0 : n0 ≤ h0.size) (H0 : Exa Z h0 ar "java/lang/String") (H1 : Fld Z h0 ar "java/lang/String" "value" "[B" .null) (H2 : Fld Z h0 ar "java/lang/String" "coder" "B" (.int (0 : Int32))) (H3 : Arv Z h0 ca kc .char (0 : Int32) [] (.int (0 : Int32))) (g_ar : n0 ≤ ar) (ne_ca_ar : ca ≠ ar) :
    MetFree l (⟨"java/lang/String", "<init>", "([CIILjava/lang/Void;)V"⟩ : MethodName) (head1 (Jvm.Cond.code (⟨"java/lang/String", "<init>", "([CIILjava/lang/Void;)V"⟩ : MethodName) jdk_42_method_149_code 6 none :: ws) ({ frames := 1, cells := 4, slots := 8, locals := 12 } : Room)) (fun a U => a = #[(.ref ar), (.ref ca), (.int (0 : Int32)), (.int (0 : Int32)), .null] ∧ Z.Warmed39 U.vm ∧ U.heap = h0 ∧ CHv Z consts_1 U.vm h0) (fun _ _ _ _ _ => True) (fun _ U o U' => ∃ v L, o = .returned v ∧ Q_si4_0 Z ar ca kc h0 n0 v U'.heap L ∧ CHr Z consts_1 U.vm U.heap U'.vm U'.heap ∧ ReturnedEndW U o U' L ({ frames := 1, cells := 4, slots := 8, locals := 12 } : Room).cells ({ frames := 1, cells := 4, slots := 8, locals := 12 } : Room).slots) := by
  refine MetFree.of_bodySF (plainFor_of_name s0pn3) hisR ?_
  intro p e s m args below meth c s₁ Bd hml0 hP hK
  obtain ⟨rfl, hZ, hh, hCH⟩ := hP
  have hx := Bd.exec
  have hby := Bd.bytes
  have hret := Bd.returns
  have hlk := Bd.notSynchronized
  have hml : c.maxLocals = 6 := hml0
  have hown : s.vm.findClass "java/lang/String" = some m.cls := findClass_of_methodNamed Bd.named
  have hnm := (name_of_methodNamed Bd.named Bd.method).1
  have hZ : Z.Warmed39 (s.setVm s.vm).vm := hZ
  have hown : (s.setVm s.vm).vm.findClass "java/lang/String" = some m.cls := hown
  have hS0 : s.Since s.vm h0.size := (State.WarmedH.refl s).since _
  have hk0 : h0.size ≤ h0.size := Nat.le_refl _
  have CR0 : CHr Z consts_1 s.vm h0 s.vm h0 := CHr.refl hCH
  have hEL : EW Z a0 consts_1 := own_EW hw
  have wS := own_wS hw
  have X0 : Stand p l e ({ frames := 1, cells := 4, slots := 8, locals := 12 } : Room) (s.setVm s.vm) m #[(.ref ar), (.ref ca), (.int (0 : Int32)), (.int (0 : Int32)), .null] below meth c s₁ [] 0 0 := Stand.of_body Bd
  have e0 : s₁.heap = h0 := by rw [← hh, Bd.state]; rfl
  have N0 := Fr.nil n0
  show Wp p e below (fun o s₂ => ∃ v L, o = .returned v ∧ Q_si4_0 Z ar ca kc h0 n0 v s₂.heap L ∧ CHr Z consts_1 s.vm s.heap s₂.vm s₂.heap ∧ ReturnedEndW s o s₂ L ({ frames := 1, cells := 4, slots := 8, locals := 12 } : Room).cells ({ frames := 1, cells := 4, slots := 8, locals := 12 } : Room).slots) _
  refine Wp.back (U' := (s₁.setTop (mkF m 0 #[.val (.ref ar), .val (.ref ca), .val (.int (0 : Int32)), .val (.int (0 : Int32)), .val .null, .unset] []))) (fun t k => castTop (s0ef3 m ar ca (0 : Int32) (0 : Int32)) k) ?_
  have sf_ar : Safe Z consts_1 s.vm h0 ar := own_safe hZ.alike H0 H1
  refine Wp.back (U' := (s₁.setTop (mkF m 1 #[.val (.ref ar), .val (.ref ca), .val (.int (0 : Int32)), .val (.int (0 : Int32)), .val .null, .unset] [(.ref ar)]))) (fun t k => XS.aloadN X0.here hx rfl (hb hby s0d3_0) rfl rfl k) ?_
  obtain ⟨T1, X1, e1, st1⟩ := initO X0 hx hZ hown (hw _ (List.mem_of_getElem? (i := 16) rfl)) (hw _ (List.mem_of_getElem? (i := 17) rfl)) (hw _ (List.mem_of_getElem? (i := 18) rfl)) e0 (g := (mkF m 1 #[.val (.ref ar), .val (.ref ca), .val (.int (0 : Int32)), .val (.int (0 : Int32)), .val .null, .unset] [(.ref ar)])) rfl (by rw [hml]; rfl) rfl (hb hby s0d3_1) (by decide) (W := 0) (by show 2 * 0 + _ ≤ _; exact Nat.le_of_eq rfl) (by decide)
  refine Wp.back (U' := (T1.setTop (mkF m 4 #[.val (.ref ar), .val (.ref ca), .val (.int (0 : Int32)), .val (.int (0 : Int32)), .val .null, .unset] []))) st1 ?_
  refine Wp.back (U' := (T1.setTop (mkF m 9 #[.val (.ref ar), .val (.ref ca), .val (.int (0 : Int32)), .val (.int (0 : Int32)), .val .null, .unset] [(.ref ar)]))) (fun t k => XS.iloadN X1.here hx rfl (hb hby s0d3_4) rfl (XS.ifNo X1.here hx rfl (hb hby s0d3_5) rfl ((if0 _ _).trans (teq (by decide)).2) (XS.aloadN X1.here hx rfl (hb hby s0d3_8) rfl rfl k))) ?_
  obtain ⟨a2, T2, h2, k2, b2, kc2, X2, e2, E2, hS2, hk2, hZ, hown, A2, C2, V2, K2, la2, lb2, R2, L2, Sf2, st2⟩ := ldcCH X1 hx hZ hown (hw _ (List.mem_of_getElem? (i := 19) rfl)) wS e1 hS0 hk0 hEL (List.mem_of_getElem? (i := 0) rfl) hCH (vs := []) (z := (0 : Int32)) ⟨by decide, rfl⟩ (by decide) rfl (g := (mkF m 9 #[.val (.ref ar), .val (.ref ca), .val (.int (0 : Int32)), .val (.int (0 : Int32)), .val .null, .unset] [(.ref ar)])) rfl (hb hby s0d3_9) (n := 0) (by decide) (by decide) (by decide) (by decide)
  have f3_0 := Nat.le_trans Z0 E2.1
  have f3_1 := H0.ext E2
  have f3_2 := H1.ext E2
  have f3_3 := H2.ext E2
  have f3_4 := H3.ext E2
  have f3_5 := (Keep.refl h0 [ar]).ext E2
  have f3_6 := R2.1
  have f3_7 := CR0.trans R2
  have f3_8 := hk2
  have f3_9 := CHr.safe R2 H0.lt sf_ar
  have ne_ar_a2 : ar ≠ a2 := (Sf2 _ f3_9).1
  have ne_ar_b2 : ar ≠ b2 := (Sf2 _ f3_9).2
  refine Wp.back (U' := (T2.setTop (mkF m 11 #[.val (.ref ar), .val (.ref ca), .val (.int (0 : Int32)), .val (.int (0 : Int32)), .val .null, .unset] [(.ref a2), (.ref ar)]))) st2 ?_
  obtain ⟨T4, X4, e4, st4⟩ := getF X2 hx hZ hown (host := "") (Or.inl (hw _ (List.mem_of_getElem? (i := 25) rfl))) Via.refl e2 V2 (g := (mkF m 11 #[.val (.ref ar), .val (.ref ca), .val (.int (0 : Int32)), .val (.int (0 : Int32)), .val .null, .unset] [(.ref a2), (.ref ar)])) rfl rfl (hb hby s0d3_11)
  refine Wp.back (U' := (T4.setTop (mkF m 14 #[.val (.ref ar), .val (.ref ca), .val (.int (0 : Int32)), .val (.int (0 : Int32)), .val .null, .unset] [(.ref b2), (.ref ar)]))) st4 ?_
  obtain ⟨T5, h5, X5, e5, W5, st5⟩ := putF X4 hx hZ hown (host := "") (Or.inl (hw _ (List.mem_of_getElem? (i := 25) rfl))) Via.refl e4 f3_2 f3_1 (Or.inr ⟨(hw _ (List.mem_of_getElem? (i := 21) rfl)), rfl, hnm⟩) (hw _ (List.mem_of_getElem? (i := 6) rfl)) (ty := (.array .byte)) (by decide) rfl rfl (g := (mkF m 14 #[.val (.ref ar), .val (.ref ca), .val (.int (0 : Int32)), .val (.int (0 : Int32)), .val .null, .unset] [(.ref b2), (.ref ar)])) rfl rfl (hb hby s0d3_14)
  have Fw5 := f3_2.same W5
  have f6_0 := Nat.le_trans f3_0 (Keep.of_wr W5).1
  have f6_1 := f3_1.wr W5
  have f6_2 := f3_3.other W5 (Or.inr (slot_ne (Or.inr (hw _ (List.mem_of_getElem? (i := 22) rfl))) (Or.inr (hw _ (List.mem_of_getElem? (i := 21) rfl))) (by decide) (t := .byte) (t' := (.array .byte)) (by decide) (by decide)))
  have f6_3 := f3_4.other W5 ne_ca_ar
  have f6_4 := f3_5.wr W5 (Or.inl (List.mem_of_getElem? (i := 0) rfl))
  have f6_5 := CHv.wr W5 f3_9 f3_6
  have f6_6 := f3_7.trans (CHr.wr W5 f3_9 f3_6)
  have f6_7 := Nat.le_trans f3_8 (Keep.of_wr W5).1
  have f6_8 := Safe.wr W5 f3_9 f3_6 f3_9
  have f6_9 := A2.wr W5
  have f6_10 := C2.other W5 (Or.inl (Ne.symm ne_ar_a2))
  have f6_11 := V2.other W5 (Or.inl (Ne.symm ne_ar_a2))
  have f6_12 := K2.other W5 (Ne.symm ne_ar_b2)
  have N5 := Fr.snoc X5 N0 g_ar
  refine Wp.back (U' := (T5.setTop (mkF m 17 #[.val (.ref ar), .val (.ref ca), .val (.int (0 : Int32)), .val (.int (0 : Int32)), .val .null, .unset] []))) st5 ?_
  refine Wp.back (U' := (T5.setTop (mkF m 18 #[.val (.ref ar), .val (.ref ca), .val (.int (0 : Int32)), .val (.int (0 : Int32)), .val .null, .unset] [(.ref ar)]))) (fun t k => XS.aloadN X5.here hx rfl (hb hby s0d3_17) rfl rfl k) ?_
  obtain ⟨a7, T7, h7, k7, b7, kc7, X7, e7, E7, hS7, hk7, hZ, hown, A7, C7, V7, K7, la7, lb7, R7, L7, Sf7, st7⟩ := ldcCH X5 hx hZ hown (hw _ (List.mem_of_getElem? (i := 19) rfl)) wS e5 hS2 f6_7 hEL (List.mem_of_getElem? (i := 0) rfl) f6_5 (vs := []) (z := (0 : Int32)) ⟨by decide, rfl⟩ (by decide) rfl (g := (mkF m 18 #[.val (.ref ar), .val (.ref ca), .val (.int (0 : Int32)), .val (.int (0 : Int32)), .val .null, .unset] [(.ref ar)])) rfl (hb hby s0d3_18) (n := 0) (by decide) (by decide) (by decide) (by decide)
  have f8_0 := Nat.le_trans f6_0 E7.1
  have f8_1 := f6_1.ext E7
  have f8_2 := f6_2.ext E7
  have f8_3 := f6_3.ext E7
  have f8_4 := f6_4.ext E7
  have f8_5 := R7.1
  have f8_6 := f6_6.trans R7
  have f8_7 := hk7
  have f8_8 := CHr.safe R7 f6_1.lt f6_8
  have f8_9 := f6_9.ext E7
  have f8_10 := f6_10.ext E7
  have f8_11 := f6_11.ext E7
  have f8_12 := f6_12.ext E7
  have f8_13 := Fw5.ext E7
  have ne_ar_a7 : ar ≠ a7 := (Sf7 _ f8_8).1
  have ne_ar_b7 : ar ≠ b7 := (Sf7 _ f8_8).2
  refine Wp.back (U' := (T7.setTop (mkF m 20 #[.val (.ref ar), .val (.ref ca), .val (.int (0 : Int32)), .val (.int (0 : Int32)), .val .null, .unset] [(.ref a7), (.ref ar)]))) st7 ?_
  obtain ⟨T9, X9, e9, st9⟩ := getF X7 hx hZ hown (host := "") (Or.inl (hw _ (List.mem_of_getElem? (i := 26) rfl))) Via.refl e7 C7 (g := (mkF m 20 #[.val (.ref ar), .val (.ref ca), .val (.int (0 : Int32)), .val (.int (0 : Int32)), .val .null, .unset] [(.ref a7), (.ref ar)])) rfl rfl (hb hby s0d3_20)
  refine Wp.back (U' := (T9.setTop (mkF m 23 #[.val (.ref ar), .val (.ref ca), .val (.int (0 : Int32)), .val (.int (0 : Int32)), .val .null, .unset] [(.int (0 : Int32)), (.ref ar)]))) st9 ?_
  obtain ⟨T10, h10, X10, e10, W10, st10⟩ := putFN X9 hx hZ hown (hw _ (List.mem_of_getElem? (i := 26) rfl)) Via.refl e9 f8_2 f8_1 (Or.inr ⟨(hw _ (List.mem_of_getElem? (i := 22) rfl)), rfl, hnm⟩) (hw _ (List.mem_of_getElem? (i := 6) rfl)) (ty := .byte) (v' := .int (0 : Int32)) (by decide) rfl rfl (g := (mkF m 23 #[.val (.ref ar), .val (.ref ca), .val (.int (0 : Int32)), .val (.int (0 : Int32)), .val .null, .unset] [(.int (0 : Int32)), (.ref ar)])) rfl rfl (hb hby s0d3_23)
  have Fw10 := f8_2.same W10
  have f11_0 := Nat.le_trans f8_0 (Keep.of_wr W10).1
  have f11_1 := f8_1.wr W10
  have f11_2 := f8_3.other W10 ne_ca_ar
  have f11_3 := f8_4.wr W10 (Or.inl (List.mem_of_getElem? (i := 0) rfl))
  have f11_4 := CHv.wr W10 f8_8 f8_5
  have f11_5 := f8_6.trans (CHr.wr W10 f8_8 f8_5)
  have f11_6 := Nat.le_trans f8_7 (Keep.of_wr W10).1
  have f11_7 := Safe.wr W10 f8_8 f8_5 f8_8
  have f11_8 := f8_9.wr W10
  have f11_9 := f8_10.other W10 (Or.inl (Ne.symm ne_ar_a2))
  have f11_10 := f8_11.other W10 (Or.inl (Ne.symm ne_ar_a2))
  have f11_11 := f8_12.other W10 (Ne.symm ne_ar_b2)
  have f11_12 := f8_13.other W10 (Or.inr (slot_ne (Or.inr (hw _ (List.mem_of_getElem? (i := 21) rfl))) (Or.inr (hw _ (List.mem_of_getElem? (i := 22) rfl))) (by decide) (t := (.array .byte)) (t' := .byte) (by decide) (by decide)))
  have f11_13 := A7.wr W10
  have f11_14 := C7.other W10 (Or.inl (Ne.symm ne_ar_a7))
  have f11_15 := V7.other W10 (Or.inl (Ne.symm ne_ar_a7))
  have f11_16 := K7.other W10 (Ne.symm ne_ar_b7)
  have N10 := Fr.snoc X10 N5 g_ar
  refine Wp.back (U' := (T10.setTop (mkF m 26 #[.val (.ref ar), .val (.ref ca), .val (.int (0 : Int32)), .val (.int (0 : Int32)), .val .null, .unset] []))) st10 ?_
  obtain ⟨fs, hr, hrun, hended, hend⟩ := X10.leaveW hS7 (by rw [e10]; exact f11_6) (v := none) (fun _ => rfl)
  refine Wp.done (X10.returnOut hx hret (hb hby s0d3_26) hr) hrun hended ⟨_, _, rfl, ?_, ?_, hend.1, hend.2.1, hend.2.2.1, hend.2.2.2.mono (by decide) (by decide)⟩
  rotate_left
  · show CHr Z consts_1 s.vm s.heap T10.vm T10.heap
    rw [hh, e10]
    exact f11_5.trans (CHv.at X10 hZ hEL f11_4)
  show Q_si4_0 Z ar ca kc h0 n0 _ T10.heap _
  rw [e10]
  exact ⟨b2, kc2, rfl, N10, f11_3, f11_1, f11_12, Fw10, f11_11⟩
def Q_si1_0 (Z : State) (ar : Addr) (ca : Addr) (kc : ClassId) (h0 : Heap) (n0 : Nat) (v : Option Value) (h : Heap) (L : List Loc) : Prop := ∃ ex0 : Addr, ∃ fk0 : ClassId, v = none ∧ Fr n0 L ∧ Keep h0 h [ar] ∧ Exa Z h ar "java/lang/String" ∧ Fld Z h ar "java/lang/String" "value" "[B" (.ref ex0) ∧ Fld Z h ar "java/lang/String" "coder" "B" (.int (0 : Int32)) ∧ Arv Z h ex0 fk0 .byte (0 : Int32) [] (.int 0)
theorem s0d2_0 : decode jdk_42_method_3_code 0 = .ok (.aload_n 0, 1) := by decide +kernel
theorem s0d2_1 : decode jdk_42_method_3_code 1 = .ok (.aload_n 1, 1) := by decide +kernel
theorem s0d2_2 : decode jdk_42_method_3_code 2 = .ok (.iconst 0, 1) := by decide +kernel
theorem s0d2_3 : decode jdk_42_method_3_code 3 = .ok (.aload_n 1, 1) := by decide +kernel
theorem s0d2_4 : decode jdk_42_method_3_code 4 = .ok (.arraylength, 1) := by decide +kernel
theorem s0d2_5 : decode jdk_42_method_3_code 5 = .ok (.aconst_null, 1) := by decide +kernel
theorem s0d2_6 : decode jdk_42_method_3_code 6 = .ok (.invokespecial 27, 3) := by decide +kernel
theorem s0d2_9 : decode jdk_42_method_3_code 9 = .ok (.return_, 1) := by decide +kernel
theorem s0pd2_0 : parseMethodDescriptor "([CIILjava/lang/Void;)V" = some ⟨[(.array .char), .int, .int, (.object "java/lang/Void")], none⟩ := by decide +kernel
theorem s0pn2 : plainName "java/lang/String" = true := by first | (simp [plainName, overriddenIn]; done) | decide +kernel
theorem s0ef2 (m : MethodId) (x0 : Addr) (x1 : Addr) : entryFrame m #[(.ref x0), (.ref x1)] 2 = mkF m 0 #[.val (.ref x0), .val (.ref x1)] [] := by first | (simp [entryFrame, mkF, argsToLocals, Value.category]; done) | rfl
set_option maxRecDepth 65536 in
set_option maxHeartbeats 40000000 in
theorem rm_si1_0 (l : Launch) (Z : State) (a0 : Array Value) (hw : ∀ d ∈ tables_1, d.before a0 Z = true) (ws : List Jvm.Cond) (ar : Addr) (ca : Addr) (kc : ClassId) (h0 : Heap) (n0 : Nat) (Z0 : n0 ≤ h0.size) (H0 : Exa Z h0 ar "java/lang/String") (H1 : Fld Z h0 ar "java/lang/String" "value" "[B" .null) (H2 : Fld Z h0 ar "java/lang/String" "coder" "B" (.int (0 : Int32))) (H3 : Arv Z h0 ca kc .char (0 : Int32) [] (.int (0 : Int32))) (g_ar : n0 ≤ ar) (ne_ca_ar : ca ≠ ar) :
    MetFree l (⟨"java/lang/String", "<init>", "([C)V"⟩ : MethodName) (head1 (Jvm.Cond.code (⟨"java/lang/String", "<init>", "([C)V"⟩ : MethodName) jdk_42_method_3_code 2 none :: ws) ({ frames := 2, cells := 4, slots := 8, locals := 29 } : Room)) (fun a U => a = #[(.ref ar), (.ref ca)] ∧ Z.Warmed39 U.vm ∧ U.heap = h0 ∧ CHv Z consts_1 U.vm h0) (fun _ _ _ _ _ => True) (fun _ U o U' => ∃ v L, o = .returned v ∧ Q_si1_0 Z ar ca kc h0 n0 v U'.heap L ∧ CHr Z consts_1 U.vm U.heap U'.vm U'.heap ∧ ReturnedEndW U o U' L ({ frames := 2, cells := 4, slots := 8, locals := 29 } : Room).cells ({ frames := 2, cells := 4, slots := 8, locals := 29 } : Room).slots) := by
  refine MetFree.of_bodySF (plainFor_of_name s0pn2) hisR ?_
  intro p e s m args below meth c s₁ Bd hml0 hP hK
  obtain ⟨rfl, hZ, hh, hCH⟩ := hP
  have hx := Bd.exec
  have hby := Bd.bytes
  have hret := Bd.returns
  have hlk := Bd.notSynchronized
  have hml : c.maxLocals = 2 := hml0
  have hown : s.vm.findClass "java/lang/String" = some m.cls := findClass_of_methodNamed Bd.named
  have hnm := (name_of_methodNamed Bd.named Bd.method).1
  have hZ : Z.Warmed39 (s.setVm s.vm).vm := hZ
  have hown : (s.setVm s.vm).vm.findClass "java/lang/String" = some m.cls := hown
  have hS0 : s.Since s.vm h0.size := (State.WarmedH.refl s).since _
  have hk0 : h0.size ≤ h0.size := Nat.le_refl _
  have CR0 : CHr Z consts_1 s.vm h0 s.vm h0 := CHr.refl hCH
  have hEL : EW Z a0 consts_1 := own_EW hw
  have wS := own_wS hw
  have X0 : Stand p l e ({ frames := 2, cells := 4, slots := 8, locals := 29 } : Room) (s.setVm s.vm) m #[(.ref ar), (.ref ca)] below meth c s₁ [] 0 0 := Stand.of_body Bd
  have e0 : s₁.heap = h0 := by rw [← hh, Bd.state]; rfl
  have N0 := Fr.nil n0
  show Wp p e below (fun o s₂ => ∃ v L, o = .returned v ∧ Q_si1_0 Z ar ca kc h0 n0 v s₂.heap L ∧ CHr Z consts_1 s.vm s.heap s₂.vm s₂.heap ∧ ReturnedEndW s o s₂ L ({ frames := 2, cells := 4, slots := 8, locals := 29 } : Room).cells ({ frames := 2, cells := 4, slots := 8, locals := 29 } : Room).slots) _
  refine Wp.back (U' := (s₁.setTop (mkF m 0 #[.val (.ref ar), .val (.ref ca)] []))) (fun t k => castTop (s0ef2 m ar ca) k) ?_
  have sf_ar : Safe Z consts_1 s.vm h0 ar := own_safe hZ.alike H0 H1
  refine Wp.back (U' := (s₁.setTop (mkF m 4 #[.val (.ref ar), .val (.ref ca)] [(.ref ca), (.int (0 : Int32)), (.ref ca), (.ref ar)]))) (fun t k => XS.aloadN X0.here hx rfl (hb hby s0d2_0) rfl rfl (XS.aloadN X0.here hx rfl (hb hby s0d2_1) rfl rfl (XT.iconstV X0.here hx rfl (0 : Int32) (hb hby s0d2_2) (by decide) (XS.aloadN X0.here hx rfl (hb hby s0d2_3) rfl rfl k)))) ?_
  have vq1 := H3
  obtain ⟨cl1, Ar1, -, qs1, qn1, -, -⟩ := vq1
  refine Wp.back (U' := (s₁.setTop (mkF m 5 #[.val (.ref ar), .val (.ref ca)] [(.int (0 : Int32)), (.int (0 : Int32)), (.ref ca), (.ref ar)]))) (fun t k => X0.arraylength hx (by rw [e0]; exact Ar1.1) (State.isArrayOf_alike hZ.alike Ar1.2.1) (g := (mkF m 4 #[.val (.ref ar), .val (.ref ca)] [(.ref ca), (.int (0 : Int32)), (.ref ca), (.ref ar)])) rfl rfl (hb hby s0d2_4) t (by rw [len_of qs1 qn1]; exact k)) ?_
  refine Wp.back (U' := (s₁.setTop (mkF m 6 #[.val (.ref ar), .val (.ref ca)] [.null, (.int (0 : Int32)), (.int (0 : Int32)), (.ref ca), (.ref ar)]))) (fun t k => XS.aconstNull X0.here hx rfl (hb hby s0d2_5) k) ?_
  obtain ⟨_, _, ⟨T2, L2, k2, n2⟩, -, X2, hS2, gr2, ⟨Lc2, hQ2, l2, y2, z2, R2⟩, st2⟩ := X0.specialBackS hx (y := (⟨"java/lang/String", "<init>", "([CIILjava/lang/Void;)V"⟩ : MethodName)) rfl hown (mvT hZ (hw _ (List.mem_of_getElem? (i := 12) rfl))) (mvT hZ (hw _ (List.mem_of_getElem? (i := 13) rfl))) (mvT hZ (hw _ (List.mem_of_getElem? (i := 15) rfl))) (by decide) (backOfSH (W := 0) (rm_si4_0 l Z a0 hw [] ar ca kc h0 n0 Z0 H0 H1 H2 H3 g_ar ne_ca_ar) hZ (hw _ (List.mem_of_getElem? (i := 15) rfl)) (hw _ (List.mem_of_getElem? (i := 7) rfl)) (by decide) (by decide) hEL hCH) (g := (mkF m 6 #[.val (.ref ar), .val (.ref ca)] [.null, (.int (0 : Int32)), (.int (0 : Int32)), (.ref ca), (.ref ar)])) rfl (by rw [hml]; rfl) (Steps.refl _) (a := ar) (argsL := [(.ref ca), (.int (0 : Int32)), (.int (0 : Int32)), .null]) (rest := []) (lenOf s0pd2_0 rfl) rfl (by show 2 * 0 + _ ≤ _; exact Nat.le_of_eq rfl) (hb hby s0d2_6) (fun _ _ => ⟨rfl, e0, (by decide : 0 + 4 ≤ _), (by decide : 0 + 8 ≤ _)⟩)
  dsimp only [Pt.U, Pt.locs, Pt.cells, Pt.slots] at X2 l2 y2 z2 st2 hQ2 hS2 gr2 R2
  subst l2 y2 z2
  obtain ⟨X2, hS2, hZ, hown⟩ := rebS hS0 (by rw [e0]; exact hk0) X2 hS2 gr2 hZ hown
  obtain ⟨x2_0, k2_0, rfl, N2q, K2, o2_0, o2_1, o2_2, o2_3⟩ := hQ2
  have f3_0 := Nat.le_trans Z0 K2.1
  have f3_1 := H0.keep K2
  have f3_4 := H3.keep K2 (ninS ne_ca_ar nin0)
  have f3_5 := (Keep.refl h0 [ar]).trans K2 (allS (Or.inl (List.mem_of_getElem? (i := 0) rfl)) all0)
  have f3_6 := R2.1
  have f3_7 := CR0.trans R2
  have f3_8 := Nat.le_refl T2.heap.size
  have f3_9 := CHr.safe R2 H0.lt sf_ar
  have N2 := Fr.app N0 N2q
  refine Wp.back (U' := (T2.setTop (mkF m 9 #[.val (.ref ar), .val (.ref ca)] []))) (fun t k => st2.trans k) ?_
  obtain ⟨fs, hr, hrun, hended, hend⟩ := X2.leaveW hS2 f3_8 (v := none) (fun _ => rfl)
  refine Wp.done (X2.returnOut hx hret (hb hby s0d2_9) hr) hrun hended ⟨_, _, rfl, ?_, ?_, hend.1, hend.2.1, hend.2.2.1, hend.2.2.2.mono (by decide) (by decide)⟩
  rotate_left
  · show CHr Z consts_1 s.vm s.heap T2.vm T2.heap
    rw [hh]
    exact f3_7.trans (CHv.at X2 hZ hEL f3_6)
  show Q_si1_0 Z ar ca kc h0 n0 _ T2.heap _
  exact ⟨x2_0, k2_0, rfl, N2, f3_5, o2_0, o2_1, o2_2, o2_3⟩
def Q_mk0 (Z : State) (p1 : Int32) (p2 : Int32)  (h0 : Heap) (n0 : Nat) (v : Option Value) (h : Heap) (L : List Loc) : Prop := ∃ fr0 : Addr, ∃ ex0 : Addr, ∃ fk0 : ClassId, v = some (.ref fr0) ∧ Fr n0 L ∧ Keep h0 h [] ∧ h0.size ≤ fr0 ∧ Exa Z h fr0 "java/lang/String" ∧ Fld Z h fr0 "java/lang/String" "value" "[B" (.ref ex0) ∧ Fld Z h fr0 "java/lang/String" "coder" "B" (.int (0 : Int32)) ∧ Arv Z h ex0 fk0 .byte (0 : Int32) [] (.int 0)
theorem m0d1_0 : decode method_3_code 0 = .ok (.iload_n 0, 1) := by decide +kernel
theorem m0d1_1 : decode method_3_code 1 = .ok (.ifCond .ne 14, 3) := by decide +kernel
theorem m0d1_4 : decode method_3_code 4 = .ok (.new 28, 3) := by decide +kernel
theorem m0d1_7 : decode method_3_code 7 = .ok (.dup, 1) := by decide +kernel
theorem m0d1_8 : decode method_3_code 8 = .ok (.iconst 0, 1) := by decide +kernel
theorem m0d1_9 : decode method_3_code 9 = .ok (.newarray .char, 2) := by decide +kernel
theorem m0d1_11 : decode method_3_code 11 = .ok (.invokespecial 30, 3) := by decide +kernel
theorem m0d1_14 : decode method_3_code 14 = .ok (.areturn, 1) := by decide +kernel
theorem m0pd1_0 : parseMethodDescriptor "([C)V" = some ⟨[(.array .char)], none⟩ := by decide +kernel
theorem m0pn1 : plainName "com/example/query_to_table/querytotable/sql/TokenIsSymbolPinLaw" = true := by first | (simp [plainName, overriddenIn]; done) | decide +kernel
theorem m0ef1 (m : MethodId) (x0 : Int32) (x1 : Int32) (x2 : Int32) : entryFrame m #[(.int x0), (.int x1), (.int x2)] 3 = mkF m 0 #[.val (.int x0), .val (.int x1), .val (.int x2)] [] := by first | (simp [entryFrame, mkF, argsToLocals, Value.category]; done) | rfl
set_option maxRecDepth 65536 in
set_option maxHeartbeats 40000000 in
theorem rm_mk0 (l : Launch) (Z : State) (a0 : Array Value) (hw : ∀ d ∈ tables_1, d.before a0 Z = true) (ws : List Jvm.Cond) (p1 : Int32) (p2 : Int32)  (h0 : Heap) (n0 : Nat) (Z0 : n0 ≤ h0.size)  :
    MetFree l (⟨"com/example/query_to_table/querytotable/sql/TokenIsSymbolPinLaw", "mk", "(ICC)Ljava/lang/String;"⟩ : MethodName) (head1 (Jvm.Cond.code (⟨"com/example/query_to_table/querytotable/sql/TokenIsSymbolPinLaw", "mk", "(ICC)Ljava/lang/String;"⟩ : MethodName) method_3_code 3 (some (.object "java/lang/String")) :: ws) ({ frames := 3, cells := 6, slots := 12, locals := 43 } : Room)) (fun a U => a = #[(.int (0 : Int32)), (.int p1), (.int p2)] ∧ Z.Warmed39 U.vm ∧ U.heap = h0 ∧ CHv Z consts_1 U.vm h0) (fun _ _ _ _ _ => True) (fun _ U o U' => ∃ v L, o = .returned v ∧ Q_mk0 Z p1 p2 h0 n0 v U'.heap L ∧ CHr Z consts_1 U.vm U.heap U'.vm U'.heap ∧ ReturnedEndW U o U' L ({ frames := 3, cells := 6, slots := 12, locals := 43 } : Room).cells ({ frames := 3, cells := 6, slots := 12, locals := 43 } : Room).slots) := by
  refine MetFree.of_bodySF (plainFor_of_name m0pn1) hisR ?_
  intro p e s m args below meth c s₁ Bd hml0 hP hK
  obtain ⟨rfl, hZ, hh, hCH⟩ := hP
  have hx := Bd.exec
  have hby := Bd.bytes
  have hret := Bd.returns
  have hlk := Bd.notSynchronized
  have hml : c.maxLocals = 3 := hml0
  have hown : s.vm.findClass "com/example/query_to_table/querytotable/sql/TokenIsSymbolPinLaw" = some m.cls := findClass_of_methodNamed Bd.named
  have hnm := (name_of_methodNamed Bd.named Bd.method).1
  have hZ : Z.Warmed39 (s.setVm s.vm).vm := hZ
  have hown : (s.setVm s.vm).vm.findClass "com/example/query_to_table/querytotable/sql/TokenIsSymbolPinLaw" = some m.cls := hown
  have hS0 : s.Since s.vm h0.size := (State.WarmedH.refl s).since _
  have hk0 : h0.size ≤ h0.size := Nat.le_refl _
  have CR0 : CHr Z consts_1 s.vm h0 s.vm h0 := CHr.refl hCH
  have hEL : EW Z a0 consts_1 := own_EW hw
  have wS := own_wS hw
  have X0 : Stand p l e ({ frames := 3, cells := 6, slots := 12, locals := 43 } : Room) (s.setVm s.vm) m #[(.int (0 : Int32)), (.int p1), (.int p2)] below meth c s₁ [] 0 0 := Stand.of_body Bd
  have e0 : s₁.heap = h0 := by rw [← hh, Bd.state]; rfl
  have N0 := Fr.nil n0
  show Wp p e below (fun o s₂ => ∃ v L, o = .returned v ∧ Q_mk0 Z p1 p2 h0 n0 v s₂.heap L ∧ CHr Z consts_1 s.vm s.heap s₂.vm s₂.heap ∧ ReturnedEndW s o s₂ L ({ frames := 3, cells := 6, slots := 12, locals := 43 } : Room).cells ({ frames := 3, cells := 6, slots := 12, locals := 43 } : Room).slots) _
  refine Wp.back (U' := (s₁.setTop (mkF m 0 #[.val (.int (0 : Int32)), .val (.int p1), .val (.int p2)] []))) (fun t k => castTop (m0ef1 m (0 : Int32) p1 p2) k) ?_
  refine Wp.back (U' := (s₁.setTop (mkF m 4 #[.val (.int (0 : Int32)), .val (.int p1), .val (.int p2)] []))) (fun t k => XS.iloadN X0.here hx rfl (hb hby m0d1_0) rfl (XS.ifNo X0.here hx rfl (hb hby m0d1_1) rfl ((if0 _ _).trans (teq (by decide)).2) k)) ?_
  obtain ⟨T1, h1, X1, e1, E1, A1, D1, -, st1⟩ := newO X0 hx hZ hown (hw _ (List.mem_of_getElem? (i := 5) rfl)) (hw _ (List.mem_of_getElem? (i := 6) rfl)) (hw _ (List.mem_of_getElem? (i := 7) rfl)) e0 (g := (mkF m 4 #[.val (.int (0 : Int32)), .val (.int p1), .val (.int p2)] [])) rfl (hb hby m0d1_4) (by decide) (by decide)
  obtain ⟨b1, g1⟩ : ∃ z, z = h0.size := ⟨_, rfl⟩
  rw [← g1] at A1 D1 st1
  have g_b1 : n0 ≤ b1 := Nat.le_trans Z0 (Nat.le_of_eq g1.symm)
  have sz_b1 : h0.size ≤ b1 := Nat.le_trans (Keep.refl h0 []).1 (Nat.le_of_eq g1.symm)
  have sf_b1 : Safe Z consts_1 s.vm h0 b1 := Safe.new (Nat.le_of_eq g1.symm)
  have f2_0 := Nat.le_trans Z0 E1.1
  have f2_1 := (Keep.refl h0 []).ext E1
  have f2_2 := CHv.ext E1 hCH
  have f2_3 := CR0.trans (CHr.ext E1 hCH)
  have f2_4 := Nat.le_trans hk0 E1.1
  have f2_5 := Safe.ext E1 hCH sf_b1
  have F1_21 : Fld Z h1 b1 "java/lang/String" "value" "[B" .null := D1 (Or.inr (hw _ (List.mem_of_getElem? (i := 21) rfl))) (ty := (.array .byte)) (by decide)
  have F1_22 : Fld Z h1 b1 "java/lang/String" "coder" "B" (.int (0 : Int32)) := D1 (Or.inr (hw _ (List.mem_of_getElem? (i := 22) rfl))) (ty := .byte) (by decide)
  refine Wp.back (U' := (T1.setTop (mkF m 7 #[.val (.int (0 : Int32)), .val (.int p1), .val (.int p2)] [(.ref b1)]))) st1 ?_
  refine Wp.back (U' := (T1.setTop (mkF m 9 #[.val (.int (0 : Int32)), .val (.int p1), .val (.int p2)] [(.int (0 : Int32)), (.ref b1), (.ref b1)]))) (fun t k => XS.dup X1.here hx rfl (hb hby m0d1_7) rfl rfl (XT.iconstV X1.here hx rfl (0 : Int32) (hb hby m0d1_8) (by decide) k)) ?_
  obtain ⟨T3, h3, k3, X3, e3, E3, A3, st3⟩ := newP X1 hx hZ (hw _ (List.mem_of_getElem? (i := 8) rfl)) e1 (g := (mkF m 9 #[.val (.int (0 : Int32)), .val (.int p1), .val (.int p2)] [(.int (0 : Int32)), (.ref b1), (.ref b1)])) rfl (hb hby m0d1_9) rfl (by decide) (cap := 0) (by decide) (by decide) (by decide) (by decide)
  obtain ⟨b3, g3⟩ : ∃ z, z = h1.size := ⟨_, rfl⟩
  rw [← g3] at A3 st3
  have ne_b1_b3 : b1 ≠ b3 := Nat.ne_of_lt (Nat.lt_of_lt_of_le A1.lt (Nat.le_of_eq g3.symm))
  have g_b3 : n0 ≤ b3 := Nat.le_trans f2_0 (Nat.le_of_eq g3.symm)
  have sz_b3 : h0.size ≤ b3 := Nat.le_trans f2_1.1 (Nat.le_of_eq g3.symm)
  have sf_b3 : Safe Z consts_1 s.vm h1 b3 := Safe.new (Nat.le_of_eq g3.symm)
  have f4_0 := Nat.le_trans f2_0 E3.1
  have f4_1 := f2_1.ext E3
  have f4_2 := CHv.ext E3 f2_2
  have f4_3 := f2_3.trans (CHr.ext E3 f2_2)
  have f4_4 := Nat.le_trans f2_4 E3.1
  have f4_5 := Safe.ext E3 f2_2 f2_5
  have f4_6 := A1.ext E3
  have f4_7 := F1_21.ext E3
  have f4_8 := F1_22.ext E3
  have f4_9 := Safe.ext E3 f2_2 sf_b3
  have V3 : Arv Z h3 b3 k3 .char (0 : Int32) [] (.int (0 : Int32)) := (Arv.new A3 (by decide)).pad (pad_rep [] (.int (0 : Int32)) 0)
  refine Wp.back (U' := (T3.setTop (mkF m 11 #[.val (.int (0 : Int32)), .val (.int p1), .val (.int p2)] [(.ref b3), (.ref b1), (.ref b1)]))) st3 ?_
  obtain ⟨_, _, ⟨T5, L5, k5, n5⟩, -, X5, hS5, gr5, ⟨Lc5, hQ5, l5, y5, z5, R5⟩, st5⟩ := X3.specialBackS hx (y := (⟨"java/lang/String", "<init>", "([C)V"⟩ : MethodName)) rfl hown (mvT hZ (hw _ (List.mem_of_getElem? (i := 9) rfl))) (mvT hZ (hw _ (List.mem_of_getElem? (i := 10) rfl))) (mvT hZ (hw _ (List.mem_of_getElem? (i := 11) rfl))) (by decide) (backOfSH (W := 1) (rm_si1_0 l Z a0 hw [] b1 b3 k3 h3 n0 f4_0 f4_6 f4_7 f4_8 V3 g_b1 (Ne.symm ne_b1_b3)) hZ (hw _ (List.mem_of_getElem? (i := 11) rfl)) (hw _ (List.mem_of_getElem? (i := 7) rfl)) (by decide) (by decide) hEL f4_2) (g := (mkF m 11 #[.val (.int (0 : Int32)), .val (.int p1), .val (.int p2)] [(.ref b3), (.ref b1), (.ref b1)])) rfl (by rw [hml]; rfl) (Steps.refl _) (a := b1) (argsL := [(.ref b3)]) (rest := [(.ref b1)]) (lenOf m0pd1_0 rfl) rfl (by show 2 * 0 + _ ≤ _; exact Nat.le_of_eq rfl) (hb hby m0d1_11) (fun _ _ => ⟨rfl, e3, (by decide : 2 + 4 ≤ _), (by decide : 4 + 8 ≤ _)⟩)
  dsimp only [Pt.U, Pt.locs, Pt.cells, Pt.slots] at X5 l5 y5 z5 st5 hQ5 hS5 gr5 R5
  subst l5 y5 z5
  obtain ⟨X5, hS5, hZ, hown⟩ := rebS hS0 (by rw [e3]; exact f4_4) X5 hS5 gr5 hZ hown
  obtain ⟨x5_0, k5_0, rfl, N5q, K5, o5_0, o5_1, o5_2, o5_3⟩ := hQ5
  have f6_0 := Nat.le_trans f4_0 K5.1
  have f6_1 := f4_1.trans K5 (allS (Or.inr sz_b1) all0)
  have f6_2 := R5.1
  have f6_3 := f4_3.trans R5
  have f6_4 := Nat.le_refl T5.heap.size
  have f6_5 := CHr.safe R5 f4_6.lt f4_5
  have f6_6 := f4_6.keep K5
  have f6_9 := CHr.safe R5 V3.lt f4_9
  have f6_10 := V3.keep K5 (ninS (Ne.symm ne_b1_b3) nin0)
  have N5 := Fr.app N0 N5q
  refine Wp.back (U' := (T5.setTop (mkF m 14 #[.val (.int (0 : Int32)), .val (.int p1), .val (.int p2)] [(.ref b1)]))) (fun t k => st5.trans k) ?_
  obtain ⟨fs, hr, hrun, hended, hend⟩ := X5.leaveW hS5 f6_4 (v := (some (.ref b1))) (fun h => by rw [hret] at h; cases h)
  refine Wp.done (retOut X5 hx hret rfl (Or.inr (Or.inr (Or.inr (Or.inr ⟨rfl, rfl, rfl⟩)))) (hb hby m0d1_14) hr) hrun hended ⟨_, _, rfl, ?_, ?_, hend.1, hend.2.1, hend.2.2.1, hend.2.2.2.mono (by decide) (by decide)⟩
  rotate_left
  · show CHr Z consts_1 s.vm s.heap T5.vm T5.heap
    rw [hh]
    exact f6_3.trans (CHv.at X5 hZ hEL f6_2)
  show Q_mk0 Z p1 p2 h0 n0 _ T5.heap _
  exact ⟨b1, x5_0, k5_0, rfl, N5, f6_1, sz_b1, o5_0, o5_1, o5_2, o5_3⟩
def Q_mk1 (Z : State) (p1 : Int32) (p2 : Int32) (cs : Int32) (h0 : Heap) (n0 : Nat) (v : Option Value) (h : Heap) (L : List Loc) : Prop := ∃ fr0 : Addr, ∃ fr1 : Addr, ∃ fk0 : ClassId, v = some (.ref fr0) ∧ Fr n0 L ∧ Keep h0 h [] ∧ h0.size ≤ fr0 ∧ h0.size ≤ fr1 ∧ Exa Z h fr0 "java/lang/String" ∧ Fld Z h fr0 "java/lang/String" "value" "[B" (.ref fr1) ∧ Fld Z h fr0 "java/lang/String" "coder" "B" (.int (0 : Int32)) ∧ Arv Z h fr1 fk0 .byte (1 : Int32) [(.int (nar .byte ((nar .char p1)).toInt8.toInt32))] (.int (0 : Int32))
theorem m1d1_0 : decode method_3_code 0 = .ok (.iload_n 0, 1) := by decide +kernel
theorem m1d1_1 : decode method_3_code 1 = .ok (.ifCond .ne 14, 3) := by decide +kernel
theorem m1d1_15 : decode method_3_code 15 = .ok (.iload_n 0, 1) := by decide +kernel
theorem m1d1_16 : decode method_3_code 16 = .ok (.iconst 1, 1) := by decide +kernel
theorem m1d1_17 : decode method_3_code 17 = .ok (.if_icmp .ne 18, 3) := by decide +kernel
theorem m1d1_20 : decode method_3_code 20 = .ok (.new 28, 3) := by decide +kernel
theorem m1d1_23 : decode method_3_code 23 = .ok (.dup, 1) := by decide +kernel
theorem m1d1_24 : decode method_3_code 24 = .ok (.iconst 1, 1) := by decide +kernel
theorem m1d1_25 : decode method_3_code 25 = .ok (.newarray .char, 2) := by decide +kernel
theorem m1d1_27 : decode method_3_code 27 = .ok (.dup, 1) := by decide +kernel
theorem m1d1_28 : decode method_3_code 28 = .ok (.iconst 0, 1) := by decide +kernel
theorem m1d1_29 : decode method_3_code 29 = .ok (.iload_n 1, 1) := by decide +kernel
theorem m1d1_30 : decode method_3_code 30 = .ok (.castore, 1) := by decide +kernel
theorem m1d1_31 : decode method_3_code 31 = .ok (.invokespecial 30, 3) := by decide +kernel
theorem m1d1_34 : decode method_3_code 34 = .ok (.areturn, 1) := by decide +kernel
theorem m1pd1_0 : parseMethodDescriptor "([C)V" = some ⟨[(.array .char)], none⟩ := by decide +kernel
theorem m1pn1 : plainName "com/example/query_to_table/querytotable/sql/TokenIsSymbolPinLaw" = true := by first | (simp [plainName, overriddenIn]; done) | decide +kernel
theorem m1ef1 (m : MethodId) (x0 : Int32) (x1 : Int32) (x2 : Int32) : entryFrame m #[(.int x0), (.int x1), (.int x2)] 3 = mkF m 0 #[.val (.int x0), .val (.int x1), .val (.int x2)] [] := by first | (simp [entryFrame, mkF, argsToLocals, Value.category]; done) | rfl
set_option maxRecDepth 65536 in
set_option maxHeartbeats 40000000 in
theorem rm_mk1 (l : Launch) (Z : State) (a0 : Array Value) (hw : ∀ d ∈ tables_1, d.before a0 Z = true) (ws : List Jvm.Cond) (p1 : Int32) (p2 : Int32) (cs : Int32) (h0 : Heap) (n0 : Nat) (Z0 : n0 ≤ h0.size) (H0 : Sta Z h0 "java/lang/String" "COMPACT_STRINGS" "Z" (.int cs)) (hc1 : ¬ (255 : Int32) < (nar .char p1)) (hcs : ¬ cs = (0 : Int32)) :
    MetFree l (⟨"com/example/query_to_table/querytotable/sql/TokenIsSymbolPinLaw", "mk", "(ICC)Ljava/lang/String;"⟩ : MethodName) (head1 (Jvm.Cond.code (⟨"com/example/query_to_table/querytotable/sql/TokenIsSymbolPinLaw", "mk", "(ICC)Ljava/lang/String;"⟩ : MethodName) method_3_code 3 (some (.object "java/lang/String")) :: ws) ({ frames := 4, cells := 3, slots := 6, locals := 66 } : Room)) (fun a U => a = #[(.int (1 : Int32)), (.int p1), (.int p2)] ∧ Z.Warmed39 U.vm ∧ U.heap = h0) (fun _ _ _ _ _ => True) (fun _ U o U' => ∃ v L, o = .returned v ∧ Q_mk1 Z p1 p2 cs h0 n0 v U'.heap L ∧ FrameEnd U o U' L ({ frames := 4, cells := 3, slots := 6, locals := 66 } : Room).cells ({ frames := 4, cells := 3, slots := 6, locals := 66 } : Room).slots) := by
  refine MetFree.of_bodySF (plainFor_of_name m1pn1) hisR ?_
  intro p e s m args below meth c s₁ Bd hml0 hP hK
  obtain ⟨rfl, hZ, hh⟩ := hP
  have hx := Bd.exec
  have hby := Bd.bytes
  have hret := Bd.returns
  have hlk := Bd.notSynchronized
  have hml : c.maxLocals = 3 := hml0
  have hown : s.vm.findClass "com/example/query_to_table/querytotable/sql/TokenIsSymbolPinLaw" = some m.cls := findClass_of_methodNamed Bd.named
  have hnm := (name_of_methodNamed Bd.named Bd.method).1
  have X0 : Stand p l e ({ frames := 4, cells := 3, slots := 6, locals := 66 } : Room) s m #[(.int (1 : Int32)), (.int p1), (.int p2)] below meth c s₁ [] 0 0 := Stand.of_body Bd
  have e0 : s₁.heap = h0 := by rw [← hh, Bd.state]; rfl
  have N0 := Fr.nil n0
  show Wp p e below (fun o s₂ => ∃ v L, o = .returned v ∧ Q_mk1 Z p1 p2 cs h0 n0 v s₂.heap L ∧ FrameEnd s o s₂ L ({ frames := 4, cells := 3, slots := 6, locals := 66 } : Room).cells ({ frames := 4, cells := 3, slots := 6, locals := 66 } : Room).slots) _
  refine Wp.back (U' := (s₁.setTop (mkF m 0 #[.val (.int (1 : Int32)), .val (.int p1), .val (.int p2)] []))) (fun t k => castTop (m1ef1 m (1 : Int32) p1 p2) k) ?_
  refine Wp.back (U' := (s₁.setTop (mkF m 20 #[.val (.int (1 : Int32)), .val (.int p1), .val (.int p2)] []))) (fun t k => XS.iloadN X0.here hx rfl (hb hby m1d1_0) rfl (XS.ifYes X0.here hx rfl (pc0 := 1) (pc' := 15) rfl (hb hby m1d1_1) rfl ((if0 _ _).trans (feq (by decide)).2) (by decide) (by decide) (XS.iloadN X0.here hx rfl (hb hby m1d1_15) rfl (XT.iconstV X0.here hx rfl (1 : Int32) (hb hby m1d1_16) (by decide) (XS.icmpNo X0.here hx rfl (hb hby m1d1_17) rfl (teq (by decide)).2 k))))) ?_
  obtain ⟨T1, h1, X1, e1, E1, A1, D1, -, st1⟩ := newO X0 hx hZ hown (hw _ (List.mem_of_getElem? (i := 5) rfl)) (hw _ (List.mem_of_getElem? (i := 6) rfl)) (hw _ (List.mem_of_getElem? (i := 7) rfl)) e0 (g := (mkF m 20 #[.val (.int (1 : Int32)), .val (.int p1), .val (.int p2)] [])) rfl (hb hby m1d1_20) (by decide) (by decide)
  obtain ⟨b1, g1⟩ : ∃ z, z = h0.size := ⟨_, rfl⟩
  rw [← g1] at A1 D1 st1
  have g_b1 : n0 ≤ b1 := Nat.le_trans Z0 (Nat.le_of_eq g1.symm)
  have sz_b1 : h0.size ≤ b1 := Nat.le_trans (Keep.refl h0 []).1 (Nat.le_of_eq g1.symm)
  have f2_0 := Nat.le_trans Z0 E1.1
  have f2_1 := H0.ext E1
  have f2_2 := (Keep.refl h0 []).ext E1
  have F1_21 : Fld Z h1 b1 "java/lang/String" "value" "[B" .null := D1 (Or.inr (hw _ (List.mem_of_getElem? (i := 21) rfl))) (ty := (.array .byte)) (by decide)
  have F1_22 : Fld Z h1 b1 "java/lang/String" "coder" "B" (.int (0 : Int32)) := D1 (Or.inr (hw _ (List.mem_of_getElem? (i := 22) rfl))) (ty := .byte) (by decide)
  refine Wp.back (U' := (T1.setTop (mkF m 23 #[.val (.int (1 : Int32)), .val (.int p1), .val (.int p2)] [(.ref b1)]))) st1 ?_
  refine Wp.back (U' := (T1.setTop (mkF m 25 #[.val (.int (1 : Int32)), .val (.int p1), .val (.int p2)] [(.int (1 : Int32)), (.ref b1), (.ref b1)]))) (fun t k => XS.dup X1.here hx rfl (hb hby m1d1_23) rfl rfl (XT.iconstV X1.here hx rfl (1 : Int32) (hb hby m1d1_24) (by decide) k)) ?_
  obtain ⟨T3, h3, k3, X3, e3, E3, A3, st3⟩ := newP X1 hx hZ (hw _ (List.mem_of_getElem? (i := 8) rfl)) e1 (g := (mkF m 25 #[.val (.int (1 : Int32)), .val (.int p1), .val (.int p2)] [(.int (1 : Int32)), (.ref b1), (.ref b1)])) rfl (hb hby m1d1_25) rfl (by decide) (cap := 1) (by decide) (by decide) (by decide) (by decide)
  obtain ⟨b3, g3⟩ : ∃ z, z = h1.size := ⟨_, rfl⟩
  rw [← g3] at A3 st3
  have ne_b1_b3 : b1 ≠ b3 := Nat.ne_of_lt (Nat.lt_of_lt_of_le A1.lt (Nat.le_of_eq g3.symm))
  have g_b3 : n0 ≤ b3 := Nat.le_trans f2_0 (Nat.le_of_eq g3.symm)
  have sz_b3 : h0.size ≤ b3 := Nat.le_trans f2_2.1 (Nat.le_of_eq g3.symm)
  have f4_0 := Nat.le_trans f2_0 E3.1
  have f4_1 := f2_1.ext E3
  have f4_2 := f2_2.ext E3
  have f4_3 := A1.ext E3
  have f4_4 := F1_21.ext E3
  have f4_5 := F1_22.ext E3
  have V3 : Arv Z h3 b3 k3 .char (1 : Int32) [(.int (0 : Int32))] (.int (0 : Int32)) := (Arv.new A3 (by decide)).pad (pad_rep [] (.int (0 : Int32)) 1)
  refine Wp.back (U' := (T3.setTop (mkF m 27 #[.val (.int (1 : Int32)), .val (.int p1), .val (.int p2)] [(.ref b3), (.ref b1), (.ref b1)]))) st3 ?_
  refine Wp.back (U' := (T3.setTop (mkF m 30 #[.val (.int (1 : Int32)), .val (.int p1), .val (.int p2)] [(.int p1), (.int (0 : Int32)), (.ref b3), (.ref b3), (.ref b1), (.ref b1)]))) (fun t k => XS.dup X3.here hx rfl (hb hby m1d1_27) rfl rfl (XT.iconstV X3.here hx rfl (0 : Int32) (hb hby m1d1_28) (by decide) (XS.iloadN X3.here hx rfl (hb hby m1d1_29) rfl k))) ?_
  have vq5 := V3
  obtain ⟨cl5, Ar5, qa5, qs5, qn5, qh5, qg5⟩ := vq5
  have hin5 : ¬ ((0 : Int32) < 0 ∨ cl5.slots.size ≤ ((0 : Int32)).toNatClampNeg) := inb_of qs5 ⟨by decide, by decide⟩
  obtain ⟨T5, h5, X5, e5, W5, st5⟩ := stC X3 hx hZ e3 Ar5 (j := (0 : Int32)) hin5 (g := (mkF m 30 #[.val (.int (1 : Int32)), .val (.int p1), .val (.int p2)] [(.int p1), (.int (0 : Int32)), (.ref b3), (.ref b3), (.ref b1), (.ref b1)])) rfl rfl (hb hby m1d1_30)
  have V5 : Arv Z h5 b3 k3 .char (1 : Int32) [(.int (nar .char p1))] (.int (0 : Int32)) := Arv.set Ar5 qa5 qs5 qn5 qh5 qg5 (fits_nar_char p1) W5 0 rfl (Nat.le_of_ble_eq_true rfl)
  have f6_0 := Nat.le_trans f4_0 (Keep.of_wr W5).1
  have f6_1 := f4_1.wr W5
  have f6_2 := f4_2.wr W5 (Or.inr sz_b3)
  have f6_3 := f4_3.wr W5
  have f6_4 := f4_4.other W5 (Or.inl ne_b1_b3)
  have f6_5 := f4_5.other W5 (Or.inl ne_b1_b3)
  have N5 := Fr.snoc X5 N0 g_b3
  refine Wp.back (U' := (T5.setTop (mkF m 31 #[.val (.int (1 : Int32)), .val (.int p1), .val (.int p2)] [(.ref b3), (.ref b1), (.ref b1)]))) st5 ?_
  obtain ⟨_, _, ⟨T7, L7, k7, n7⟩, -, X7, ⟨Lc7, hQ7, l7, y7, z7⟩, st7⟩ := X5.specialBack hx (y := (⟨"java/lang/String", "<init>", "([C)V"⟩ : MethodName)) rfl hown (mvT hZ (hw _ (List.mem_of_getElem? (i := 9) rfl))) (mvT hZ (hw _ (List.mem_of_getElem? (i := 10) rfl))) (mvT hZ (hw _ (List.mem_of_getElem? (i := 11) rfl))) (by decide) (backOf (W := 1) (rm_si1_1 l Z a0 hw [] b1 b3 k3 (nar .char p1) cs h5 n0 f6_0 f6_3 f6_4 f6_5 V5 f6_1 g_b1 (Ne.symm ne_b1_b3) hc1 hcs) hZ (hw _ (List.mem_of_getElem? (i := 11) rfl)) (hw _ (List.mem_of_getElem? (i := 7) rfl)) (by decide) (by decide)) (g := (mkF m 31 #[.val (.int (1 : Int32)), .val (.int p1), .val (.int p2)] [(.ref b3), (.ref b1), (.ref b1)])) rfl (by rw [hml]; rfl) (Steps.refl _) (a := b1) (argsL := [(.ref b3)]) (rest := [(.ref b1)]) (lenOf m1pd1_0 rfl) rfl (by show 2 * 0 + _ ≤ _; exact Nat.le_of_eq rfl) (hb hby m1d1_31) (fun _ _ => ⟨rfl, e5, (by decide : 2 + 1 ≤ _), (by decide : 5 + 1 ≤ _)⟩)
  dsimp only [Pt.U, Pt.locs, Pt.cells, Pt.slots] at X7 l7 y7 z7 st7 hQ7
  subst l7 y7 z7
  obtain ⟨b7_0, k7_0, rfl, N7q, K7, sf7_0, o7_0, o7_1, o7_2, o7_3⟩ := hQ7
  have ne_b1_b7_0 : b1 ≠ b7_0 := Nat.ne_of_lt (Nat.lt_of_lt_of_le f6_3.lt sf7_0)
  have ne_b3_b7_0 : b3 ≠ b7_0 := Nat.ne_of_lt (Nat.lt_of_lt_of_le V5.lt sf7_0)
  have g_b7_0 : n0 ≤ b7_0 := Nat.le_trans f6_0 sf7_0
  have sz_b7_0 : h0.size ≤ b7_0 := Nat.le_trans f6_2.1 sf7_0
  have f8_0 := Nat.le_trans f6_0 K7.1
  have f8_1 := Sta_keep f6_1 K7 (allS (Exa_ns f6_3) all0)
  have f8_2 := f6_2.trans K7 (allS (Or.inr sz_b1) all0)
  have f8_3 := f6_3.keep K7
  have f8_6 := V5.keep K7 (ninS (Ne.symm ne_b1_b3) nin0)
  have N7 := Fr.app N5 N7q
  refine Wp.back (U' := (T7.setTop (mkF m 34 #[.val (.int (1 : Int32)), .val (.int p1), .val (.int p2)] [(.ref b1)]))) (fun t k => st7.trans k) ?_
  obtain ⟨fs, hr, hrun, hended, hW, hsame⟩ := X7.leave (v := (some (.ref b1))) (fun h => by rw [hret] at h; cases h)
  refine Wp.done (retOut X7 hx hret rfl (Or.inr (Or.inr (Or.inr (Or.inr ⟨rfl, rfl, rfl⟩)))) (hb hby m1d1_34) hr) hrun hended ⟨_, _, rfl, ?_, ⟨_, rfl⟩, hW, hsame.mono (by decide) (by decide)⟩
  show Q_mk1 Z p1 p2 cs h0 n0 _ T7.heap _
  exact ⟨b1, b7_0, k7_0, rfl, N7, f8_2, sz_b1, sz_b7_0, o7_0, o7_1, o7_2, o7_3⟩
def Q_mk2 (Z : State) (p1 : Int32) (p2 : Int32) (cs : Int32) (h0 : Heap) (n0 : Nat) (v : Option Value) (h : Heap) (L : List Loc) : Prop := ∃ fr0 : Addr, ∃ fr1 : Addr, ∃ fk0 : ClassId, v = some (.ref fr0) ∧ Fr n0 L ∧ Keep h0 h [] ∧ h0.size ≤ fr0 ∧ h0.size ≤ fr1 ∧ Exa Z h fr0 "java/lang/String" ∧ Fld Z h fr0 "java/lang/String" "value" "[B" (.ref fr1) ∧ Fld Z h fr0 "java/lang/String" "coder" "B" (.int (0 : Int32)) ∧ Arv Z h fr1 fk0 .byte (2 : Int32) [(.int (nar .byte ((nar .char p1)).toInt8.toInt32)), (.int (nar .byte ((nar .char p2)).toInt8.toInt32))] (.int (0 : Int32))
theorem m2d1_0 : decode method_3_code 0 = .ok (.iload_n 0, 1) := by decide +kernel
theorem m2d1_1 : decode method_3_code 1 = .ok (.ifCond .ne 14, 3) := by decide +kernel
theorem m2d1_15 : decode method_3_code 15 = .ok (.iload_n 0, 1) := by decide +kernel
theorem m2d1_16 : decode method_3_code 16 = .ok (.iconst 1, 1) := by decide +kernel
theorem m2d1_17 : decode method_3_code 17 = .ok (.if_icmp .ne 18, 3) := by decide +kernel
theorem m2d1_35 : decode method_3_code 35 = .ok (.new 28, 3) := by decide +kernel
theorem m2d1_38 : decode method_3_code 38 = .ok (.dup, 1) := by decide +kernel
theorem m2d1_39 : decode method_3_code 39 = .ok (.iconst 2, 1) := by decide +kernel
theorem m2d1_40 : decode method_3_code 40 = .ok (.newarray .char, 2) := by decide +kernel
theorem m2d1_42 : decode method_3_code 42 = .ok (.dup, 1) := by decide +kernel
theorem m2d1_43 : decode method_3_code 43 = .ok (.iconst 0, 1) := by decide +kernel
theorem m2d1_44 : decode method_3_code 44 = .ok (.iload_n 1, 1) := by decide +kernel
theorem m2d1_45 : decode method_3_code 45 = .ok (.castore, 1) := by decide +kernel
theorem m2d1_46 : decode method_3_code 46 = .ok (.dup, 1) := by decide +kernel
theorem m2d1_47 : decode method_3_code 47 = .ok (.iconst 1, 1) := by decide +kernel
theorem m2d1_48 : decode method_3_code 48 = .ok (.iload_n 2, 1) := by decide +kernel
theorem m2d1_49 : decode method_3_code 49 = .ok (.castore, 1) := by decide +kernel
theorem m2d1_50 : decode method_3_code 50 = .ok (.invokespecial 30, 3) := by decide +kernel
theorem m2d1_53 : decode method_3_code 53 = .ok (.areturn, 1) := by decide +kernel
theorem m2pd1_0 : parseMethodDescriptor "([C)V" = some ⟨[(.array .char)], none⟩ := by decide +kernel
theorem m2pn1 : plainName "com/example/query_to_table/querytotable/sql/TokenIsSymbolPinLaw" = true := by first | (simp [plainName, overriddenIn]; done) | decide +kernel
theorem m2ef1 (m : MethodId) (x0 : Int32) (x1 : Int32) (x2 : Int32) : entryFrame m #[(.int x0), (.int x1), (.int x2)] 3 = mkF m 0 #[.val (.int x0), .val (.int x1), .val (.int x2)] [] := by first | (simp [entryFrame, mkF, argsToLocals, Value.category]; done) | rfl
set_option maxRecDepth 65536 in
set_option maxHeartbeats 40000000 in
theorem rm_mk2 (l : Launch) (Z : State) (a0 : Array Value) (hw : ∀ d ∈ tables_1, d.before a0 Z = true) (ws : List Jvm.Cond) (p1 : Int32) (p2 : Int32) (cs : Int32) (h0 : Heap) (n0 : Nat) (Z0 : n0 ≤ h0.size) (H0 : Sta Z h0 "java/lang/String" "COMPACT_STRINGS" "Z" (.int cs)) (hc1 : ¬ (255 : Int32) < (nar .char p1)) (hc2 : ¬ (255 : Int32) < (nar .char p2)) (hcs : ¬ cs = (0 : Int32)) :
    MetFree l (⟨"com/example/query_to_table/querytotable/sql/TokenIsSymbolPinLaw", "mk", "(ICC)Ljava/lang/String;"⟩ : MethodName) (head1 (Jvm.Cond.code (⟨"com/example/query_to_table/querytotable/sql/TokenIsSymbolPinLaw", "mk", "(ICC)Ljava/lang/String;"⟩ : MethodName) method_3_code 3 (some (.object "java/lang/String")) :: ws) ({ frames := 4, cells := 3, slots := 8, locals := 66 } : Room)) (fun a U => a = #[(.int (2 : Int32)), (.int p1), (.int p2)] ∧ Z.Warmed39 U.vm ∧ U.heap = h0) (fun _ _ _ _ _ => True) (fun _ U o U' => ∃ v L, o = .returned v ∧ Q_mk2 Z p1 p2 cs h0 n0 v U'.heap L ∧ FrameEnd U o U' L ({ frames := 4, cells := 3, slots := 8, locals := 66 } : Room).cells ({ frames := 4, cells := 3, slots := 8, locals := 66 } : Room).slots) := by
  refine MetFree.of_bodySF (plainFor_of_name m2pn1) hisR ?_
  intro p e s m args below meth c s₁ Bd hml0 hP hK
  obtain ⟨rfl, hZ, hh⟩ := hP
  have hx := Bd.exec
  have hby := Bd.bytes
  have hret := Bd.returns
  have hlk := Bd.notSynchronized
  have hml : c.maxLocals = 3 := hml0
  have hown : s.vm.findClass "com/example/query_to_table/querytotable/sql/TokenIsSymbolPinLaw" = some m.cls := findClass_of_methodNamed Bd.named
  have hnm := (name_of_methodNamed Bd.named Bd.method).1
  have X0 : Stand p l e ({ frames := 4, cells := 3, slots := 8, locals := 66 } : Room) s m #[(.int (2 : Int32)), (.int p1), (.int p2)] below meth c s₁ [] 0 0 := Stand.of_body Bd
  have e0 : s₁.heap = h0 := by rw [← hh, Bd.state]; rfl
  have N0 := Fr.nil n0
  show Wp p e below (fun o s₂ => ∃ v L, o = .returned v ∧ Q_mk2 Z p1 p2 cs h0 n0 v s₂.heap L ∧ FrameEnd s o s₂ L ({ frames := 4, cells := 3, slots := 8, locals := 66 } : Room).cells ({ frames := 4, cells := 3, slots := 8, locals := 66 } : Room).slots) _
  refine Wp.back (U' := (s₁.setTop (mkF m 0 #[.val (.int (2 : Int32)), .val (.int p1), .val (.int p2)] []))) (fun t k => castTop (m2ef1 m (2 : Int32) p1 p2) k) ?_
  refine Wp.back (U' := (s₁.setTop (mkF m 35 #[.val (.int (2 : Int32)), .val (.int p1), .val (.int p2)] []))) (fun t k => XS.iloadN X0.here hx rfl (hb hby m2d1_0) rfl (XS.ifYes X0.here hx rfl (pc0 := 1) (pc' := 15) rfl (hb hby m2d1_1) rfl ((if0 _ _).trans (feq (by decide)).2) (by decide) (by decide) (XS.iloadN X0.here hx rfl (hb hby m2d1_15) rfl (XT.iconstV X0.here hx rfl (1 : Int32) (hb hby m2d1_16) (by decide) (XS.icmpYes X0.here hx rfl (pc0 := 17) (pc' := 35) rfl (hb hby m2d1_17) rfl (feq (by decide)).2 (by decide) (by decide) k))))) ?_
  obtain ⟨T1, h1, X1, e1, E1, A1, D1, -, st1⟩ := newO X0 hx hZ hown (hw _ (List.mem_of_getElem? (i := 5) rfl)) (hw _ (List.mem_of_getElem? (i := 6) rfl)) (hw _ (List.mem_of_getElem? (i := 7) rfl)) e0 (g := (mkF m 35 #[.val (.int (2 : Int32)), .val (.int p1), .val (.int p2)] [])) rfl (hb hby m2d1_35) (by decide) (by decide)
  obtain ⟨b1, g1⟩ : ∃ z, z = h0.size := ⟨_, rfl⟩
  rw [← g1] at A1 D1 st1
  have g_b1 : n0 ≤ b1 := Nat.le_trans Z0 (Nat.le_of_eq g1.symm)
  have sz_b1 : h0.size ≤ b1 := Nat.le_trans (Keep.refl h0 []).1 (Nat.le_of_eq g1.symm)
  have f2_0 := Nat.le_trans Z0 E1.1
  have f2_1 := H0.ext E1
  have f2_2 := (Keep.refl h0 []).ext E1
  have F1_21 : Fld Z h1 b1 "java/lang/String" "value" "[B" .null := D1 (Or.inr (hw _ (List.mem_of_getElem? (i := 21) rfl))) (ty := (.array .byte)) (by decide)
  have F1_22 : Fld Z h1 b1 "java/lang/String" "coder" "B" (.int (0 : Int32)) := D1 (Or.inr (hw _ (List.mem_of_getElem? (i := 22) rfl))) (ty := .byte) (by decide)
  refine Wp.back (U' := (T1.setTop (mkF m 38 #[.val (.int (2 : Int32)), .val (.int p1), .val (.int p2)] [(.ref b1)]))) st1 ?_
  refine Wp.back (U' := (T1.setTop (mkF m 40 #[.val (.int (2 : Int32)), .val (.int p1), .val (.int p2)] [(.int (2 : Int32)), (.ref b1), (.ref b1)]))) (fun t k => XS.dup X1.here hx rfl (hb hby m2d1_38) rfl rfl (XT.iconstV X1.here hx rfl (2 : Int32) (hb hby m2d1_39) (by decide) k)) ?_
  obtain ⟨T3, h3, k3, X3, e3, E3, A3, st3⟩ := newP X1 hx hZ (hw _ (List.mem_of_getElem? (i := 8) rfl)) e1 (g := (mkF m 40 #[.val (.int (2 : Int32)), .val (.int p1), .val (.int p2)] [(.int (2 : Int32)), (.ref b1), (.ref b1)])) rfl (hb hby m2d1_40) rfl (by decide) (cap := 2) (by decide) (by decide) (by decide) (by decide)
  obtain ⟨b3, g3⟩ : ∃ z, z = h1.size := ⟨_, rfl⟩
  rw [← g3] at A3 st3
  have ne_b1_b3 : b1 ≠ b3 := Nat.ne_of_lt (Nat.lt_of_lt_of_le A1.lt (Nat.le_of_eq g3.symm))
  have g_b3 : n0 ≤ b3 := Nat.le_trans f2_0 (Nat.le_of_eq g3.symm)
  have sz_b3 : h0.size ≤ b3 := Nat.le_trans f2_2.1 (Nat.le_of_eq g3.symm)
  have f4_0 := Nat.le_trans f2_0 E3.1
  have f4_1 := f2_1.ext E3
  have f4_2 := f2_2.ext E3
  have f4_3 := A1.ext E3
  have f4_4 := F1_21.ext E3
  have f4_5 := F1_22.ext E3
  have V3 : Arv Z h3 b3 k3 .char (2 : Int32) [(.int (0 : Int32)), (.int (0 : Int32))] (.int (0 : Int32)) := (Arv.new A3 (by decide)).pad (pad_rep [] (.int (0 : Int32)) 2)
  refine Wp.back (U' := (T3.setTop (mkF m 42 #[.val (.int (2 : Int32)), .val (.int p1), .val (.int p2)] [(.ref b3), (.ref b1), (.ref b1)]))) st3 ?_
  refine Wp.back (U' := (T3.setTop (mkF m 45 #[.val (.int (2 : Int32)), .val (.int p1), .val (.int p2)] [(.int p1), (.int (0 : Int32)), (.ref b3), (.ref b3), (.ref b1), (.ref b1)]))) (fun t k => XS.dup X3.here hx rfl (hb hby m2d1_42) rfl rfl (XT.iconstV X3.here hx rfl (0 : Int32) (hb hby m2d1_43) (by decide) (XS.iloadN X3.here hx rfl (hb hby m2d1_44) rfl k))) ?_
  have vq5 := V3
  obtain ⟨cl5, Ar5, qa5, qs5, qn5, qh5, qg5⟩ := vq5
  have hin5 : ¬ ((0 : Int32) < 0 ∨ cl5.slots.size ≤ ((0 : Int32)).toNatClampNeg) := inb_of qs5 ⟨by decide, by decide⟩
  obtain ⟨T5, h5, X5, e5, W5, st5⟩ := stC X3 hx hZ e3 Ar5 (j := (0 : Int32)) hin5 (g := (mkF m 45 #[.val (.int (2 : Int32)), .val (.int p1), .val (.int p2)] [(.int p1), (.int (0 : Int32)), (.ref b3), (.ref b3), (.ref b1), (.ref b1)])) rfl rfl (hb hby m2d1_45)
  have V5 : Arv Z h5 b3 k3 .char (2 : Int32) [(.int (nar .char p1)), (.int (0 : Int32))] (.int (0 : Int32)) := Arv.set Ar5 qa5 qs5 qn5 qh5 qg5 (fits_nar_char p1) W5 0 rfl (Nat.le_of_ble_eq_true rfl)
  have f6_0 := Nat.le_trans f4_0 (Keep.of_wr W5).1
  have f6_1 := f4_1.wr W5
  have f6_2 := f4_2.wr W5 (Or.inr sz_b3)
  have f6_3 := f4_3.wr W5
  have f6_4 := f4_4.other W5 (Or.inl ne_b1_b3)
  have f6_5 := f4_5.other W5 (Or.inl ne_b1_b3)
  have N5 := Fr.snoc X5 N0 g_b3
  refine Wp.back (U' := (T5.setTop (mkF m 46 #[.val (.int (2 : Int32)), .val (.int p1), .val (.int p2)] [(.ref b3), (.ref b1), (.ref b1)]))) st5 ?_
  refine Wp.back (U' := (T5.setTop (mkF m 49 #[.val (.int (2 : Int32)), .val (.int p1), .val (.int p2)] [(.int p2), (.int (1 : Int32)), (.ref b3), (.ref b3), (.ref b1), (.ref b1)]))) (fun t k => XS.dup X5.here hx rfl (hb hby m2d1_46) rfl rfl (XT.iconstV X5.here hx rfl (1 : Int32) (hb hby m2d1_47) (by decide) (XS.iloadN X5.here hx rfl (hb hby m2d1_48) rfl k))) ?_
  have vq7 := V5
  obtain ⟨cl7, Ar7, qa7, qs7, qn7, qh7, qg7⟩ := vq7
  have hin7 : ¬ ((1 : Int32) < 0 ∨ cl7.slots.size ≤ ((1 : Int32)).toNatClampNeg) := inb_of qs7 ⟨by decide, by decide⟩
  obtain ⟨T7, h7, X7, e7, W7, st7⟩ := stC X5 hx hZ e5 Ar7 (j := (1 : Int32)) hin7 (g := (mkF m 49 #[.val (.int (2 : Int32)), .val (.int p1), .val (.int p2)] [(.int p2), (.int (1 : Int32)), (.ref b3), (.ref b3), (.ref b1), (.ref b1)])) rfl rfl (hb hby m2d1_49)
  have V7 : Arv Z h7 b3 k3 .char (2 : Int32) [(.int (nar .char p1)), (.int (nar .char p2))] (.int (0 : Int32)) := Arv.set Ar7 qa7 qs7 qn7 qh7 qg7 (fits_nar_char p2) W7 1 rfl (Nat.le_of_ble_eq_true rfl)
  have f8_0 := Nat.le_trans f6_0 (Keep.of_wr W7).1
  have f8_1 := f6_1.wr W7
  have f8_2 := f6_2.wr W7 (Or.inr sz_b3)
  have f8_3 := f6_3.wr W7
  have f8_4 := f6_4.other W7 (Or.inl ne_b1_b3)
  have f8_5 := f6_5.other W7 (Or.inl ne_b1_b3)
  have N7 := Fr.snoc X7 N5 g_b3
  refine Wp.back (U' := (T7.setTop (mkF m 50 #[.val (.int (2 : Int32)), .val (.int p1), .val (.int p2)] [(.ref b3), (.ref b1), (.ref b1)]))) st7 ?_
  obtain ⟨_, _, ⟨T9, L9, k9, n9⟩, -, X9, ⟨Lc9, hQ9, l9, y9, z9⟩, st9⟩ := X7.specialBack hx (y := (⟨"java/lang/String", "<init>", "([C)V"⟩ : MethodName)) rfl hown (mvT hZ (hw _ (List.mem_of_getElem? (i := 9) rfl))) (mvT hZ (hw _ (List.mem_of_getElem? (i := 10) rfl))) (mvT hZ (hw _ (List.mem_of_getElem? (i := 11) rfl))) (by decide) (backOf (W := 1) (rm_si1_2 l Z a0 hw [] b1 b3 k3 (nar .char p1) (nar .char p2) cs h7 n0 f8_0 f8_3 f8_4 f8_5 V7 f8_1 g_b1 (Ne.symm ne_b1_b3) hc1 hc2 hcs) hZ (hw _ (List.mem_of_getElem? (i := 11) rfl)) (hw _ (List.mem_of_getElem? (i := 7) rfl)) (by decide) (by decide)) (g := (mkF m 50 #[.val (.int (2 : Int32)), .val (.int p1), .val (.int p2)] [(.ref b3), (.ref b1), (.ref b1)])) rfl (by rw [hml]; rfl) (Steps.refl _) (a := b1) (argsL := [(.ref b3)]) (rest := [(.ref b1)]) (lenOf m2pd1_0 rfl) rfl (by show 2 * 0 + _ ≤ _; exact Nat.le_of_eq rfl) (hb hby m2d1_50) (fun _ _ => ⟨rfl, e7, (by decide : 2 + 1 ≤ _), (by decide : 6 + 2 ≤ _)⟩)
  dsimp only [Pt.U, Pt.locs, Pt.cells, Pt.slots] at X9 l9 y9 z9 st9 hQ9
  subst l9 y9 z9
  obtain ⟨b9_0, k9_0, rfl, N9q, K9, sf9_0, o9_0, o9_1, o9_2, o9_3⟩ := hQ9
  have ne_b1_b9_0 : b1 ≠ b9_0 := Nat.ne_of_lt (Nat.lt_of_lt_of_le f8_3.lt sf9_0)
  have ne_b3_b9_0 : b3 ≠ b9_0 := Nat.ne_of_lt (Nat.lt_of_lt_of_le V7.lt sf9_0)
  have g_b9_0 : n0 ≤ b9_0 := Nat.le_trans f8_0 sf9_0
  have sz_b9_0 : h0.size ≤ b9_0 := Nat.le_trans f8_2.1 sf9_0
  have f10_0 := Nat.le_trans f8_0 K9.1
  have f10_1 := Sta_keep f8_1 K9 (allS (Exa_ns f8_3) all0)
  have f10_2 := f8_2.trans K9 (allS (Or.inr sz_b1) all0)
  have f10_3 := f8_3.keep K9
  have f10_6 := V7.keep K9 (ninS (Ne.symm ne_b1_b3) nin0)
  have N9 := Fr.app N7 N9q
  refine Wp.back (U' := (T9.setTop (mkF m 53 #[.val (.int (2 : Int32)), .val (.int p1), .val (.int p2)] [(.ref b1)]))) (fun t k => st9.trans k) ?_
  obtain ⟨fs, hr, hrun, hended, hW, hsame⟩ := X9.leave (v := (some (.ref b1))) (fun h => by rw [hret] at h; cases h)
  refine Wp.done (retOut X9 hx hret rfl (Or.inr (Or.inr (Or.inr (Or.inr ⟨rfl, rfl, rfl⟩)))) (hb hby m2d1_53) hr) hrun hended ⟨_, _, rfl, ?_, ⟨_, rfl⟩, hW, hsame.mono (by decide) (by decide)⟩
  show Q_mk2 Z p1 p2 cs h0 n0 _ T9.heap _
  exact ⟨b1, b9_0, k9_0, rfl, N9, f10_2, sz_b1, sz_b9_0, o9_0, o9_1, o9_2, o9_3⟩
def Q_k4 (Z : State)  (w4 : Addr) (h0 : Heap) (n0 : Nat) (v : Option Value) (h : Heap) (L : List Loc) : Prop := v = some (.ref w4) ∧ Fr n0 L ∧ Keep h0 h []
theorem k4d5_0 : decode method_2_code 0 = .ok (.iload_n 0, 1) := by decide +kernel
theorem k4d5_1 : decode method_2_code 1 = .ok (.ifCond .ne 7, 3) := by decide +kernel
theorem k4d5_8 : decode method_2_code 8 = .ok (.iload_n 0, 1) := by decide +kernel
theorem k4d5_9 : decode method_2_code 9 = .ok (.iconst 1, 1) := by decide +kernel
theorem k4d5_10 : decode method_2_code 10 = .ok (.if_icmp .ne 7, 3) := by decide +kernel
theorem k4d5_17 : decode method_2_code 17 = .ok (.iload_n 0, 1) := by decide +kernel
theorem k4d5_18 : decode method_2_code 18 = .ok (.iconst 2, 1) := by decide +kernel
theorem k4d5_19 : decode method_2_code 19 = .ok (.if_icmp .ne 7, 3) := by decide +kernel
theorem k4d5_26 : decode method_2_code 26 = .ok (.iload_n 0, 1) := by decide +kernel
theorem k4d5_27 : decode method_2_code 27 = .ok (.iconst 3, 1) := by decide +kernel
theorem k4d5_28 : decode method_2_code 28 = .ok (.if_icmp .ne 7, 3) := by decide +kernel
theorem k4d5_35 : decode method_2_code 35 = .ok (.iload_n 0, 1) := by decide +kernel
theorem k4d5_36 : decode method_2_code 36 = .ok (.iconst 4, 1) := by decide +kernel
theorem k4d5_37 : decode method_2_code 37 = .ok (.if_icmp .ne 7, 3) := by decide +kernel
theorem k4d5_40 : decode method_2_code 40 = .ok (.getstatic 22, 3) := by decide +kernel
theorem k4d5_43 : decode method_2_code 43 = .ok (.areturn, 1) := by decide +kernel
theorem k4pn5 : plainName "com/example/query_to_table/querytotable/sql/TokenIsSymbolPinLaw" = true := by first | (simp [plainName, overriddenIn]; done) | decide +kernel
theorem k4ef5 (m : MethodId) (x0 : Int32) : entryFrame m #[(.int x0)] 1 = mkF m 0 #[.val (.int x0)] [] := by first | (simp [entryFrame, mkF, argsToLocals, Value.category]; done) | rfl
set_option maxRecDepth 65536 in
set_option maxHeartbeats 40000000 in
theorem rm_k4 (l : Launch) (Z : State) (a0 : Array Value) (hw : ∀ d ∈ tables_1, d.before a0 Z = true) (ws : List Jvm.Cond)  (w4 : Addr) (h0 : Heap) (n0 : Nat) (Z0 : n0 ≤ h0.size) (H0 : Sta Z h0 "com/example/query_to_table/querytotable/sql/Token$Kind" "SYMBOL" "Lcom/example/query_to_table/querytotable/sql/Token$Kind;" (.ref w4)) :
    MetFree l (⟨"com/example/query_to_table/querytotable/sql/TokenIsSymbolPinLaw", "kindOf", "(I)Lcom/example/query_to_table/querytotable/sql/Token$Kind;"⟩ : MethodName) (head1 (Jvm.Cond.code (⟨"com/example/query_to_table/querytotable/sql/TokenIsSymbolPinLaw", "kindOf", "(I)Lcom/example/query_to_table/querytotable/sql/Token$Kind;"⟩ : MethodName) method_2_code 1 (some (.object "com/example/query_to_table/querytotable/sql/Token$Kind")) :: ws) ({ frames := 0, cells := 0, slots := 0, locals := 0 } : Room)) (fun a U => a = #[(.int (4 : Int32))] ∧ Z.Warmed39 U.vm ∧ U.heap = h0) (fun _ _ _ _ _ => True) (fun _ U o U' => ∃ v L, o = .returned v ∧ Q_k4 Z w4 h0 n0 v U'.heap L ∧ FrameEnd U o U' L ({ frames := 0, cells := 0, slots := 0, locals := 0 } : Room).cells ({ frames := 0, cells := 0, slots := 0, locals := 0 } : Room).slots) := by
  refine MetFree.of_bodySF (plainFor_of_name k4pn5) hisR ?_
  intro p e s m args below meth c s₁ Bd hml0 hP hK
  obtain ⟨rfl, hZ, hh⟩ := hP
  have hx := Bd.exec
  have hby := Bd.bytes
  have hret := Bd.returns
  have hlk := Bd.notSynchronized
  have hml : c.maxLocals = 1 := hml0
  have hown : s.vm.findClass "com/example/query_to_table/querytotable/sql/TokenIsSymbolPinLaw" = some m.cls := findClass_of_methodNamed Bd.named
  have hnm := (name_of_methodNamed Bd.named Bd.method).1
  have X0 : Stand p l e ({ frames := 0, cells := 0, slots := 0, locals := 0 } : Room) s m #[(.int (4 : Int32))] below meth c s₁ [] 0 0 := Stand.of_body Bd
  have e0 : s₁.heap = h0 := by rw [← hh, Bd.state]; rfl
  have N0 := Fr.nil n0
  show Wp p e below (fun o s₂ => ∃ v L, o = .returned v ∧ Q_k4 Z w4 h0 n0 v s₂.heap L ∧ FrameEnd s o s₂ L ({ frames := 0, cells := 0, slots := 0, locals := 0 } : Room).cells ({ frames := 0, cells := 0, slots := 0, locals := 0 } : Room).slots) _
  refine Wp.back (U' := (s₁.setTop (mkF m 0 #[.val (.int (4 : Int32))] []))) (fun t k => castTop (k4ef5 m (4 : Int32)) k) ?_
  refine Wp.back (U' := (s₁.setTop (mkF m 36 #[.val (.int (4 : Int32))] [(.int (4 : Int32))]))) (fun t k => XS.iloadN X0.here hx rfl (hb hby k4d5_0) rfl (XS.ifYes X0.here hx rfl (pc0 := 1) (pc' := 8) rfl (hb hby k4d5_1) rfl ((if0 _ _).trans (feq (by decide)).2) (by decide) (by decide) (XS.iloadN X0.here hx rfl (hb hby k4d5_8) rfl (XT.iconstV X0.here hx rfl (1 : Int32) (hb hby k4d5_9) (by decide) (XS.icmpYes X0.here hx rfl (pc0 := 10) (pc' := 17) rfl (hb hby k4d5_10) rfl (feq (by decide)).2 (by decide) (by decide) (XS.iloadN X0.here hx rfl (hb hby k4d5_17) rfl (XT.iconstV X0.here hx rfl (2 : Int32) (hb hby k4d5_18) (by decide) (XS.icmpYes X0.here hx rfl (pc0 := 19) (pc' := 26) rfl (hb hby k4d5_19) rfl (feq (by decide)).2 (by decide) (by decide) (XS.iloadN X0.here hx rfl (hb hby k4d5_26) rfl (XT.iconstV X0.here hx rfl (3 : Int32) (hb hby k4d5_27) (by decide) (XS.icmpYes X0.here hx rfl (pc0 := 28) (pc' := 35) rfl (hb hby k4d5_28) rfl (feq (by decide)).2 (by decide) (by decide) (XS.iloadN X0.here hx rfl (hb hby k4d5_35) rfl k)))))))))))) ?_
  refine Wp.back (U' := (s₁.setTop (mkF m 40 #[.val (.int (4 : Int32))] []))) (fun t k => XT.iconstV X0.here hx rfl (4 : Int32) (hb hby k4d5_36) (by decide) (XS.icmpNo X0.here hx rfl (hb hby k4d5_37) rfl (teq (by decide)).2 k)) ?_
  obtain ⟨T1, X1, e1, st1⟩ := getS2 X0 hx hZ hown (host := "") (Or.inl (hw _ (List.mem_of_getElem? (i := 73) rfl))) Via.refl e0 H0 (g := (mkF m 40 #[.val (.int (4 : Int32))] [])) rfl (hb hby k4d5_40)
  refine Wp.back (U' := (T1.setTop (mkF m 43 #[.val (.int (4 : Int32))] [(.ref w4)]))) st1 ?_
  obtain ⟨fs, hr, hrun, hended, hW, hsame⟩ := X1.leave (v := (some (.ref w4))) (fun h => by rw [hret] at h; cases h)
  refine Wp.done (retOut X1 hx hret rfl (Or.inr (Or.inr (Or.inr (Or.inr ⟨rfl, rfl, rfl⟩)))) (hb hby k4d5_43) hr) hrun hended ⟨_, _, rfl, ?_, ⟨_, rfl⟩, hW, hsame.mono (by decide) (by decide)⟩
  show Q_k4 Z w4 h0 n0 _ T1.heap _
  rw [e1]
  exact ⟨rfl, N0, (Keep.refl h0 [])⟩
def Q_kn (w4 : Addr) (h0 : Heap) (n0 : Nat) (v : Option Value) (h : Heap) (L : List Loc) : Prop := ∃ r : Addr, v = some (.ref r) ∧ r ≠ w4 ∧ Fr n0 L ∧ Keep h0 h []
theorem knd5_0 : decode method_2_code 0 = .ok (.iload_n 0, 1) := by decide +kernel
theorem knd5_1 : decode method_2_code 1 = .ok (.ifCond .ne 7, 3) := by decide +kernel
theorem knd5_4 : decode method_2_code 4 = .ok (.getstatic 7, 3) := by decide +kernel
theorem knd5_7 : decode method_2_code 7 = .ok (.areturn, 1) := by decide +kernel
theorem knd5_8 : decode method_2_code 8 = .ok (.iload_n 0, 1) := by decide +kernel
theorem knd5_9 : decode method_2_code 9 = .ok (.iconst 1, 1) := by decide +kernel
theorem knd5_10 : decode method_2_code 10 = .ok (.if_icmp .ne 7, 3) := by decide +kernel
theorem knd5_13 : decode method_2_code 13 = .ok (.getstatic 13, 3) := by decide +kernel
theorem knd5_16 : decode method_2_code 16 = .ok (.areturn, 1) := by decide +kernel
theorem knd5_17 : decode method_2_code 17 = .ok (.iload_n 0, 1) := by decide +kernel
theorem knd5_18 : decode method_2_code 18 = .ok (.iconst 2, 1) := by decide +kernel
theorem knd5_19 : decode method_2_code 19 = .ok (.if_icmp .ne 7, 3) := by decide +kernel
theorem knd5_22 : decode method_2_code 22 = .ok (.getstatic 16, 3) := by decide +kernel
theorem knd5_25 : decode method_2_code 25 = .ok (.areturn, 1) := by decide +kernel
theorem knd5_26 : decode method_2_code 26 = .ok (.iload_n 0, 1) := by decide +kernel
theorem knd5_27 : decode method_2_code 27 = .ok (.iconst 3, 1) := by decide +kernel
theorem knd5_28 : decode method_2_code 28 = .ok (.if_icmp .ne 7, 3) := by decide +kernel
theorem knd5_31 : decode method_2_code 31 = .ok (.getstatic 19, 3) := by decide +kernel
theorem knd5_34 : decode method_2_code 34 = .ok (.areturn, 1) := by decide +kernel
theorem knd5_35 : decode method_2_code 35 = .ok (.iload_n 0, 1) := by decide +kernel
theorem knd5_36 : decode method_2_code 36 = .ok (.iconst 4, 1) := by decide +kernel
theorem knd5_37 : decode method_2_code 37 = .ok (.if_icmp .ne 7, 3) := by decide +kernel
theorem knd5_44 : decode method_2_code 44 = .ok (.getstatic 25, 3) := by decide +kernel
theorem knd5_47 : decode method_2_code 47 = .ok (.areturn, 1) := by decide +kernel
theorem knpn5 : plainName "com/example/query_to_table/querytotable/sql/TokenIsSymbolPinLaw" = true := by first | (simp [plainName, overriddenIn]; done) | decide +kernel
theorem knef5 (m : MethodId) (x0 : Int32) : entryFrame m #[(.int x0)] 1 = mkF m 0 #[.val (.int x0)] [] := by first | (simp [entryFrame, mkF, argsToLocals, Value.category]; done) | rfl
set_option maxRecDepth 65536 in
set_option maxHeartbeats 40000000 in
theorem rm_kn (l : Launch) (Z : State) (a0 : Array Value) (hw : ∀ d ∈ tables_1, d.before a0 Z = true) (ws : List Jvm.Cond) (p0 : Int32) (w0 w1 w2 w3 w4 w5 : Addr) (h0 : Heap) (n0 : Nat) (Z0 : n0 ≤ h0.size) (S0 : Sta Z h0 "com/example/query_to_table/querytotable/sql/Token$Kind" "WORD" "Lcom/example/query_to_table/querytotable/sql/Token$Kind;" (.ref w0)) (S1 : Sta Z h0 "com/example/query_to_table/querytotable/sql/Token$Kind" "QUOTED_NAME" "Lcom/example/query_to_table/querytotable/sql/Token$Kind;" (.ref w1)) (S2 : Sta Z h0 "com/example/query_to_table/querytotable/sql/Token$Kind" "STRING" "Lcom/example/query_to_table/querytotable/sql/Token$Kind;" (.ref w2)) (S3 : Sta Z h0 "com/example/query_to_table/querytotable/sql/Token$Kind" "NUMBER" "Lcom/example/query_to_table/querytotable/sql/Token$Kind;" (.ref w3)) (S5 : Sta Z h0 "com/example/query_to_table/querytotable/sql/Token$Kind" "UNCLOSED" "Lcom/example/query_to_table/querytotable/sql/Token$Kind;" (.ref w5)) (nw0 : w0 ≠ w4) (nw1 : w1 ≠ w4) (nw2 : w2 ≠ w4) (nw3 : w3 ≠ w4) (nw5 : w5 ≠ w4) (h4 : ¬ p0 = (4 : Int32)) :
    MetFree l (⟨"com/example/query_to_table/querytotable/sql/TokenIsSymbolPinLaw", "kindOf", "(I)Lcom/example/query_to_table/querytotable/sql/Token$Kind;"⟩ : MethodName) (head1 (Jvm.Cond.code (⟨"com/example/query_to_table/querytotable/sql/TokenIsSymbolPinLaw", "kindOf", "(I)Lcom/example/query_to_table/querytotable/sql/Token$Kind;"⟩ : MethodName) method_2_code 1 (some (.object "com/example/query_to_table/querytotable/sql/Token$Kind")) :: ws) ({ frames := 0, cells := 0, slots := 0, locals := 0 } : Room)) (fun a U => a = #[(.int p0)] ∧ Z.Warmed39 U.vm ∧ U.heap = h0) (fun _ _ _ _ _ => True) (fun _ U o U' => ∃ v L, o = .returned v ∧ Q_kn w4 h0 n0 v U'.heap L ∧ FrameEnd U o U' L ({ frames := 0, cells := 0, slots := 0, locals := 0 } : Room).cells ({ frames := 0, cells := 0, slots := 0, locals := 0 } : Room).slots) := by
  refine MetFree.of_bodySF (plainFor_of_name knpn5) hisR ?_
  intro p e s m args below meth c s₁ Bd hml0 hP hK
  obtain ⟨rfl, hZ, hh⟩ := hP
  have hx := Bd.exec
  have hby := Bd.bytes
  have hret := Bd.returns
  have hlk := Bd.notSynchronized
  have hml : c.maxLocals = 1 := hml0
  have hown : s.vm.findClass "com/example/query_to_table/querytotable/sql/TokenIsSymbolPinLaw" = some m.cls := findClass_of_methodNamed Bd.named
  have hnm := (name_of_methodNamed Bd.named Bd.method).1
  have X0 : Stand p l e ({ frames := 0, cells := 0, slots := 0, locals := 0 } : Room) s m #[(.int p0)] below meth c s₁ [] 0 0 := Stand.of_body Bd
  have e0 : s₁.heap = h0 := by rw [← hh, Bd.state]; rfl
  have N0 := Fr.nil n0
  show Wp p e below (fun o s₂ => ∃ v L, o = .returned v ∧ Q_kn w4 h0 n0 v s₂.heap L ∧ FrameEnd s o s₂ L ({ frames := 0, cells := 0, slots := 0, locals := 0 } : Room).cells ({ frames := 0, cells := 0, slots := 0, locals := 0 } : Room).slots) _
  refine Wp.back (U' := (s₁.setTop (mkF m 0 #[.val (.int p0)] []))) (fun t k => castTop (knef5 m p0) k) ?_
  refine Wp.back (U' := (s₁.setTop (mkF m 1 #[.val (.int p0)] [(.int p0)]))) (fun t k => XS.iloadN X0.here hx rfl (hb hby knd5_0) rfl k) ?_
  by_cases c1_1 : p0 = (0 : Int32)
  · refine Wp.back (U' := (s₁.setTop (mkF m 4 #[.val (.int p0)] []))) (fun t k => XS.ifNo X0.here hx rfl (hb hby knd5_1) rfl ((if0 _ _).trans (teq c1_1).2) k) ?_
    obtain ⟨T2, X2, e2, st2⟩ := getS2 X0 hx hZ hown (host := "") (Or.inl (hw _ (List.mem_of_getElem? (i := 33) rfl))) Via.refl e0 S0 (g := (mkF m 4 #[.val (.int p0)] [])) rfl (hb hby knd5_4)
    refine Wp.back (U' := (T2.setTop (mkF m 7 #[.val (.int p0)] [(.ref w0)]))) st2 ?_
    obtain ⟨fs, hr, hrun, hended, hW, hsame⟩ := X2.leave (v := (some (.ref w0))) (fun h => by rw [hret] at h; cases h)
    refine Wp.done (retOut X2 hx hret rfl (Or.inr (Or.inr (Or.inr (Or.inr ⟨rfl, rfl, rfl⟩)))) (hb hby knd5_7) hr) hrun hended ⟨_, _, rfl, ?_, ⟨_, rfl⟩, hW, hsame.mono (by decide) (by decide)⟩
    show Q_kn _ h0 n0 _ T2.heap _
    rw [e2]
    exact ⟨_, rfl, nw0, N0, Keep.refl _ _⟩
  · refine Wp.back (U' := (s₁.setTop (mkF m 10 #[.val (.int p0)] [(.int (1 : Int32)), (.int p0)]))) (fun t k => XS.ifYes X0.here hx rfl (pc0 := 1) (pc' := 8) rfl (hb hby knd5_1) rfl ((if0 _ _).trans (feq c1_1).2) (by decide) (by decide) (XS.iloadN X0.here hx rfl (hb hby knd5_8) rfl (XT.iconstV X0.here hx rfl (1 : Int32) (hb hby knd5_9) (by decide) k))) ?_
    by_cases c10_3 : p0 = (1 : Int32)
    · refine Wp.back (U' := (s₁.setTop (mkF m 13 #[.val (.int p0)] []))) (fun t k => XS.icmpNo X0.here hx rfl (hb hby knd5_10) rfl (teq c10_3).2 k) ?_
      obtain ⟨T4, X4, e4, st4⟩ := getS2 X0 hx hZ hown (host := "") (Or.inl (hw _ (List.mem_of_getElem? (i := 81) rfl))) Via.refl e0 S1 (g := (mkF m 13 #[.val (.int p0)] [])) rfl (hb hby knd5_13)
      refine Wp.back (U' := (T4.setTop (mkF m 16 #[.val (.int p0)] [(.ref w1)]))) st4 ?_
      obtain ⟨fs, hr, hrun, hended, hW, hsame⟩ := X4.leave (v := (some (.ref w1))) (fun h => by rw [hret] at h; cases h)
      refine Wp.done (retOut X4 hx hret rfl (Or.inr (Or.inr (Or.inr (Or.inr ⟨rfl, rfl, rfl⟩)))) (hb hby knd5_16) hr) hrun hended ⟨_, _, rfl, ?_, ⟨_, rfl⟩, hW, hsame.mono (by decide) (by decide)⟩
      show Q_kn _ h0 n0 _ T4.heap _
      rw [e4]
      exact ⟨_, rfl, nw1, N0, Keep.refl _ _⟩
    · refine Wp.back (U' := (s₁.setTop (mkF m 19 #[.val (.int p0)] [(.int (2 : Int32)), (.int p0)]))) (fun t k => XS.icmpYes X0.here hx rfl (pc0 := 10) (pc' := 17) rfl (hb hby knd5_10) rfl (feq c10_3).2 (by decide) (by decide) (XS.iloadN X0.here hx rfl (hb hby knd5_17) rfl (XT.iconstV X0.here hx rfl (2 : Int32) (hb hby knd5_18) (by decide) k))) ?_
      by_cases c19_5 : p0 = (2 : Int32)
      · refine Wp.back (U' := (s₁.setTop (mkF m 22 #[.val (.int p0)] []))) (fun t k => XS.icmpNo X0.here hx rfl (hb hby knd5_19) rfl (teq c19_5).2 k) ?_
        obtain ⟨T6, X6, e6, st6⟩ := getS2 X0 hx hZ hown (host := "") (Or.inl (hw _ (List.mem_of_getElem? (i := 83) rfl))) Via.refl e0 S2 (g := (mkF m 22 #[.val (.int p0)] [])) rfl (hb hby knd5_22)
        refine Wp.back (U' := (T6.setTop (mkF m 25 #[.val (.int p0)] [(.ref w2)]))) st6 ?_
        obtain ⟨fs, hr, hrun, hended, hW, hsame⟩ := X6.leave (v := (some (.ref w2))) (fun h => by rw [hret] at h; cases h)
        refine Wp.done (retOut X6 hx hret rfl (Or.inr (Or.inr (Or.inr (Or.inr ⟨rfl, rfl, rfl⟩)))) (hb hby knd5_25) hr) hrun hended ⟨_, _, rfl, ?_, ⟨_, rfl⟩, hW, hsame.mono (by decide) (by decide)⟩
        show Q_kn _ h0 n0 _ T6.heap _
        rw [e6]
        exact ⟨_, rfl, nw2, N0, Keep.refl _ _⟩
      · refine Wp.back (U' := (s₁.setTop (mkF m 28 #[.val (.int p0)] [(.int (3 : Int32)), (.int p0)]))) (fun t k => XS.icmpYes X0.here hx rfl (pc0 := 19) (pc' := 26) rfl (hb hby knd5_19) rfl (feq c19_5).2 (by decide) (by decide) (XS.iloadN X0.here hx rfl (hb hby knd5_26) rfl (XT.iconstV X0.here hx rfl (3 : Int32) (hb hby knd5_27) (by decide) k))) ?_
        by_cases c28_7 : p0 = (3 : Int32)
        · refine Wp.back (U' := (s₁.setTop (mkF m 31 #[.val (.int p0)] []))) (fun t k => XS.icmpNo X0.here hx rfl (hb hby knd5_28) rfl (teq c28_7).2 k) ?_
          obtain ⟨T8, X8, e8, st8⟩ := getS2 X0 hx hZ hown (host := "") (Or.inl (hw _ (List.mem_of_getElem? (i := 79) rfl))) Via.refl e0 S3 (g := (mkF m 31 #[.val (.int p0)] [])) rfl (hb hby knd5_31)
          refine Wp.back (U' := (T8.setTop (mkF m 34 #[.val (.int p0)] [(.ref w3)]))) st8 ?_
          obtain ⟨fs, hr, hrun, hended, hW, hsame⟩ := X8.leave (v := (some (.ref w3))) (fun h => by rw [hret] at h; cases h)
          refine Wp.done (retOut X8 hx hret rfl (Or.inr (Or.inr (Or.inr (Or.inr ⟨rfl, rfl, rfl⟩)))) (hb hby knd5_34) hr) hrun hended ⟨_, _, rfl, ?_, ⟨_, rfl⟩, hW, hsame.mono (by decide) (by decide)⟩
          show Q_kn _ h0 n0 _ T8.heap _
          rw [e8]
          exact ⟨_, rfl, nw3, N0, Keep.refl _ _⟩
        · refine Wp.back (U' := (s₁.setTop (mkF m 44 #[.val (.int p0)] []))) (fun t k => XS.icmpYes X0.here hx rfl (pc0 := 28) (pc' := 35) rfl (hb hby knd5_28) rfl (feq c28_7).2 (by decide) (by decide) (XS.iloadN X0.here hx rfl (hb hby knd5_35) rfl (XT.iconstV X0.here hx rfl (4 : Int32) (hb hby knd5_36) (by decide) (XS.icmpYes X0.here hx rfl (pc0 := 37) (pc' := 44) rfl (hb hby knd5_37) rfl (feq h4).2 (by decide) (by decide) k)))) ?_
          obtain ⟨T9, X9, e9, st9⟩ := getS2 X0 hx hZ hown (host := "") (Or.inl (hw _ (List.mem_of_getElem? (i := 90) rfl))) Via.refl e0 S5 (g := (mkF m 44 #[.val (.int p0)] [])) rfl (hb hby knd5_44)
          refine Wp.back (U' := (T9.setTop (mkF m 47 #[.val (.int p0)] [(.ref w5)]))) st9 ?_
          obtain ⟨fs, hr, hrun, hended, hW, hsame⟩ := X9.leave (v := (some (.ref w5))) (fun h => by rw [hret] at h; cases h)
          refine Wp.done (retOut X9 hx hret rfl (Or.inr (Or.inr (Or.inr (Or.inr ⟨rfl, rfl, rfl⟩)))) (hb hby knd5_47) hr) hrun hended ⟨_, _, rfl, ?_, ⟨_, rfl⟩, hW, hsame.mono (by decide) (by decide)⟩
          show Q_kn _ h0 n0 _ T9.heap _
          rw [e9]
          exact ⟨_, rfl, nw5, N0, Keep.refl _ _⟩
def Q_rc (Z : State) (ar : Addr)  (h0 : Heap) (n0 : Nat) (v : Option Value) (h : Heap) (L : List Loc) : Prop := v = none ∧ Fr n0 L ∧ Keep h0 h []
theorem d7_0 : decode jdk_30_method_1_code 0 = .ok (.aload_n 0, 1) := by decide +kernel
theorem d7_1 : decode jdk_30_method_1_code 1 = .ok (.invokespecial 1, 3) := by decide +kernel
theorem d7_4 : decode jdk_30_method_1_code 4 = .ok (.return_, 1) := by decide +kernel
theorem pn7 : plainName "java/lang/Record" = true := by first | (simp [plainName, overriddenIn]; done) | decide +kernel
theorem ef7 (m : MethodId) (x0 : Addr) : entryFrame m #[(.ref x0)] 1 = mkF m 0 #[.val (.ref x0)] [] := by first | (simp [entryFrame, mkF, argsToLocals, Value.category]; done) | rfl
set_option maxRecDepth 65536 in
set_option maxHeartbeats 40000000 in
theorem rm_rc (l : Launch) (Z : State) (a0 : Array Value) (hw : ∀ d ∈ tables_1, d.before a0 Z = true) (ws : List Jvm.Cond) (ar : Addr)  (h0 : Heap) (n0 : Nat) (Z0 : n0 ≤ h0.size)  :
    MetFree l (⟨"java/lang/Record", "<init>", "()V"⟩ : MethodName) (head1 (Jvm.Cond.code (⟨"java/lang/Record", "<init>", "()V"⟩ : MethodName) jdk_30_method_1_code 1 none :: ws) ({ frames := 1, cells := 0, slots := 0, locals := 12 } : Room)) (fun a U => a = #[(.ref ar)] ∧ Z.Warmed39 U.vm ∧ U.heap = h0) (fun _ _ _ _ _ => True) (fun _ U o U' => ∃ v L, o = .returned v ∧ Q_rc Z ar h0 n0 v U'.heap L ∧ FrameEnd U o U' L ({ frames := 1, cells := 0, slots := 0, locals := 12 } : Room).cells ({ frames := 1, cells := 0, slots := 0, locals := 12 } : Room).slots) := by
  refine MetFree.of_bodySF (plainFor_of_name pn7) hisR ?_
  intro p e s m args below meth c s₁ Bd hml0 hP hK
  obtain ⟨rfl, hZ, hh⟩ := hP
  have hx := Bd.exec
  have hby := Bd.bytes
  have hret := Bd.returns
  have hlk := Bd.notSynchronized
  have hml : c.maxLocals = 1 := hml0
  have hown : s.vm.findClass "java/lang/Record" = some m.cls := findClass_of_methodNamed Bd.named
  have hnm := (name_of_methodNamed Bd.named Bd.method).1
  have X0 : Stand p l e ({ frames := 1, cells := 0, slots := 0, locals := 12 } : Room) s m #[(.ref ar)] below meth c s₁ [] 0 0 := Stand.of_body Bd
  have e0 : s₁.heap = h0 := by rw [← hh, Bd.state]; rfl
  have N0 := Fr.nil n0
  show Wp p e below (fun o s₂ => ∃ v L, o = .returned v ∧ Q_rc Z ar h0 n0 v s₂.heap L ∧ FrameEnd s o s₂ L ({ frames := 1, cells := 0, slots := 0, locals := 12 } : Room).cells ({ frames := 1, cells := 0, slots := 0, locals := 12 } : Room).slots) _
  refine Wp.back (U' := (s₁.setTop (mkF m 0 #[.val (.ref ar)] []))) (fun t k => castTop (ef7 m ar) k) ?_
  refine Wp.back (U' := (s₁.setTop (mkF m 1 #[.val (.ref ar)] [(.ref ar)]))) (fun t k => XS.aloadN X0.here hx rfl (hb hby d7_0) rfl rfl k) ?_
  obtain ⟨T1, X1, e1, st1⟩ := initO X0 hx hZ hown (hw _ (List.mem_of_getElem? (i := 44) rfl)) (hw _ (List.mem_of_getElem? (i := 17) rfl)) (hw _ (List.mem_of_getElem? (i := 18) rfl)) e0 (g := (mkF m 1 #[.val (.ref ar)] [(.ref ar)])) rfl (by rw [hml]; rfl) rfl (hb hby d7_1) (by decide) (W := 0) (by show 2 * 0 + _ ≤ _; exact Nat.le_of_eq rfl) (by decide)
  refine Wp.back (U' := (T1.setTop (mkF m 4 #[.val (.ref ar)] []))) st1 ?_
  obtain ⟨fs, hr, hrun, hended, hW, hsame⟩ := X1.leave (v := none) (fun _ => rfl)
  refine Wp.done (X1.returnOut hx hret (hb hby d7_4) hr) hrun hended ⟨_, _, rfl, ?_, ⟨_, rfl⟩, hW, hsame.mono (by decide) (by decide)⟩
  show Q_rc Z ar h0 n0 _ T1.heap _
  rw [e1]
  exact ⟨rfl, N0, (Keep.refl h0 [])⟩
def Q_ti (Z : State) (ar : Addr) (x1 : Addr) (x2 : Addr) (p3 : Int32) (p4 : Int32) (p5 : Int32)  (h0 : Heap) (n0 : Nat) (v : Option Value) (h : Heap) (L : List Loc) : Prop := v = none ∧ Fr n0 L ∧ Keep h0 h [ar] ∧ Exa Z h ar "com/example/query_to_table/querytotable/sql/Token" ∧ Fld Z h ar "com/example/query_to_table/querytotable/sql/Token" "kind" "Lcom/example/query_to_table/querytotable/sql/Token$Kind;" (.ref x1) ∧ Fld Z h ar "com/example/query_to_table/querytotable/sql/Token" "text" "Ljava/lang/String;" (.ref x2)
theorem d6_0 : decode prog_22_method_1_code 0 = .ok (.aload_n 0, 1) := by decide +kernel
theorem d6_1 : decode prog_22_method_1_code 1 = .ok (.invokespecial 1, 3) := by decide +kernel
theorem d6_4 : decode prog_22_method_1_code 4 = .ok (.aload_n 0, 1) := by decide +kernel
theorem d6_5 : decode prog_22_method_1_code 5 = .ok (.aload_n 1, 1) := by decide +kernel
theorem d6_6 : decode prog_22_method_1_code 6 = .ok (.putfield 7, 3) := by decide +kernel
theorem d6_9 : decode prog_22_method_1_code 9 = .ok (.aload_n 0, 1) := by decide +kernel
theorem d6_10 : decode prog_22_method_1_code 10 = .ok (.aload_n 2, 1) := by decide +kernel
theorem d6_11 : decode prog_22_method_1_code 11 = .ok (.putfield 13, 3) := by decide +kernel
theorem d6_14 : decode prog_22_method_1_code 14 = .ok (.aload_n 0, 1) := by decide +kernel
theorem d6_15 : decode prog_22_method_1_code 15 = .ok (.iload_n 3, 1) := by decide +kernel
theorem d6_16 : decode prog_22_method_1_code 16 = .ok (.putfield 17, 3) := by decide +kernel
theorem d6_19 : decode prog_22_method_1_code 19 = .ok (.aload_n 0, 1) := by decide +kernel
theorem d6_20 : decode prog_22_method_1_code 20 = .ok (.iload 4, 2) := by decide +kernel
theorem d6_22 : decode prog_22_method_1_code 22 = .ok (.putfield 21, 3) := by decide +kernel
theorem d6_25 : decode prog_22_method_1_code 25 = .ok (.aload_n 0, 1) := by decide +kernel
theorem d6_26 : decode prog_22_method_1_code 26 = .ok (.iload 5, 2) := by decide +kernel
theorem d6_28 : decode prog_22_method_1_code 28 = .ok (.putfield 24, 3) := by decide +kernel
theorem d6_31 : decode prog_22_method_1_code 31 = .ok (.return_, 1) := by decide +kernel
theorem pd6_0 : parseMethodDescriptor "()V" = some ⟨[], none⟩ := by decide +kernel
theorem pn6 : plainName "com/example/query_to_table/querytotable/sql/Token" = true := by first | (simp [plainName, overriddenIn]; done) | decide +kernel
theorem ef6 (m : MethodId) (x0 : Addr) (x1 : Addr) (x2 : Addr) (x3 : Int32) (x4 : Int32) (x5 : Int32) : entryFrame m #[(.ref x0), (.ref x1), (.ref x2), (.int x3), (.int x4), (.int x5)] 6 = mkF m 0 #[.val (.ref x0), .val (.ref x1), .val (.ref x2), .val (.int x3), .val (.int x4), .val (.int x5)] [] := by first | (simp [entryFrame, mkF, argsToLocals, Value.category]; done) | rfl
set_option maxRecDepth 65536 in
set_option maxHeartbeats 40000000 in
theorem rm_ti (l : Launch) (Z : State) (a0 : Array Value) (hw : ∀ d ∈ tables_1, d.before a0 Z = true) (ws : List Jvm.Cond) (ar : Addr) (x1 : Addr) (x2 : Addr) (p3 : Int32) (p4 : Int32) (p5 : Int32)  (h0 : Heap) (n0 : Nat) (Z0 : n0 ≤ h0.size) (H0 : Exa Z h0 ar "com/example/query_to_table/querytotable/sql/Token") (H1 : Fld Z h0 ar "com/example/query_to_table/querytotable/sql/Token" "kind" "Lcom/example/query_to_table/querytotable/sql/Token$Kind;" .null) (H2 : Fld Z h0 ar "com/example/query_to_table/querytotable/sql/Token" "text" "Ljava/lang/String;" .null) (H3 : Fld Z h0 ar "com/example/query_to_table/querytotable/sql/Token" "line" "I" (.int (0 : Int32))) (H4 : Fld Z h0 ar "com/example/query_to_table/querytotable/sql/Token" "start" "I" (.int (0 : Int32))) (H5 : Fld Z h0 ar "com/example/query_to_table/querytotable/sql/Token" "end" "I" (.int (0 : Int32))) (g_ar : n0 ≤ ar) :
    MetFree l (⟨"com/example/query_to_table/querytotable/sql/Token", "<init>", "(Lcom/example/query_to_table/querytotable/sql/Token$Kind;Ljava/lang/String;III)V"⟩ : MethodName) (head1 (Jvm.Cond.code (⟨"com/example/query_to_table/querytotable/sql/Token", "<init>", "(Lcom/example/query_to_table/querytotable/sql/Token$Kind;Ljava/lang/String;III)V"⟩ : MethodName) prog_22_method_1_code 6 none :: ws) ({ frames := 2, cells := 0, slots := 0, locals := 24 } : Room)) (fun a U => a = #[(.ref ar), (.ref x1), (.ref x2), (.int p3), (.int p4), (.int p5)] ∧ Z.Warmed39 U.vm ∧ U.heap = h0) (fun _ _ _ _ _ => True) (fun _ U o U' => ∃ v L, o = .returned v ∧ Q_ti Z ar x1 x2 p3 p4 p5 h0 n0 v U'.heap L ∧ FrameEnd U o U' L ({ frames := 2, cells := 0, slots := 0, locals := 24 } : Room).cells ({ frames := 2, cells := 0, slots := 0, locals := 24 } : Room).slots) := by
  refine MetFree.of_bodySF (plainFor_of_name pn6) hisR ?_
  intro p e s m args below meth c s₁ Bd hml0 hP hK
  obtain ⟨rfl, hZ, hh⟩ := hP
  have hx := Bd.exec
  have hby := Bd.bytes
  have hret := Bd.returns
  have hlk := Bd.notSynchronized
  have hml : c.maxLocals = 6 := hml0
  have hown : s.vm.findClass "com/example/query_to_table/querytotable/sql/Token" = some m.cls := findClass_of_methodNamed Bd.named
  have hnm := (name_of_methodNamed Bd.named Bd.method).1
  have X0 : Stand p l e ({ frames := 2, cells := 0, slots := 0, locals := 24 } : Room) s m #[(.ref ar), (.ref x1), (.ref x2), (.int p3), (.int p4), (.int p5)] below meth c s₁ [] 0 0 := Stand.of_body Bd
  have e0 : s₁.heap = h0 := by rw [← hh, Bd.state]; rfl
  have N0 := Fr.nil n0
  show Wp p e below (fun o s₂ => ∃ v L, o = .returned v ∧ Q_ti Z ar x1 x2 p3 p4 p5 h0 n0 v s₂.heap L ∧ FrameEnd s o s₂ L ({ frames := 2, cells := 0, slots := 0, locals := 24 } : Room).cells ({ frames := 2, cells := 0, slots := 0, locals := 24 } : Room).slots) _
  refine Wp.back (U' := (s₁.setTop (mkF m 0 #[.val (.ref ar), .val (.ref x1), .val (.ref x2), .val (.int p3), .val (.int p4), .val (.int p5)] []))) (fun t k => castTop (ef6 m ar x1 x2 p3 p4 p5) k) ?_
  refine Wp.back (U' := (s₁.setTop (mkF m 1 #[.val (.ref ar), .val (.ref x1), .val (.ref x2), .val (.int p3), .val (.int p4), .val (.int p5)] [(.ref ar)]))) (fun t k => XS.aloadN X0.here hx rfl (hb hby d6_0) rfl rfl k) ?_
  obtain ⟨_, _, ⟨T1, L1, k1, n1⟩, -, X1, ⟨Lc1, hQ1, l1, y1, z1⟩, st1⟩ := X0.specialBack hx (y := (⟨"java/lang/Record", "<init>", "()V"⟩ : MethodName)) rfl hown (mvT hZ (hw _ (List.mem_of_getElem? (i := 39) rfl))) (mvT hZ (hw _ (List.mem_of_getElem? (i := 40) rfl))) (mvT hZ (hw _ (List.mem_of_getElem? (i := 43) rfl))) (by decide) (backOf (W := 0) (rm_rc l Z a0 hw [] ar  h0 n0 Z0 ) hZ (hw _ (List.mem_of_getElem? (i := 43) rfl)) (hw _ (List.mem_of_getElem? (i := 42) rfl)) (by decide) (by decide)) (g := (mkF m 1 #[.val (.ref ar), .val (.ref x1), .val (.ref x2), .val (.int p3), .val (.int p4), .val (.int p5)] [(.ref ar)])) rfl (by rw [hml]; rfl) (Steps.refl _) (a := ar) (argsL := []) (rest := []) (lenOf pd6_0 rfl) rfl (by show 2 * 0 + _ ≤ _; exact Nat.le_of_eq rfl) (hb hby d6_1) (fun _ _ => ⟨rfl, e0, (by decide : 0 + 0 ≤ _), (by decide : 0 + 0 ≤ _)⟩)
  dsimp only [Pt.U, Pt.locs, Pt.cells, Pt.slots] at X1 l1 y1 z1 st1 hQ1
  subst l1 y1 z1
  obtain ⟨rfl, N1q, K1⟩ := hQ1
  have f2_0 := Nat.le_trans Z0 K1.1
  have f2_1 := H0.keep K1
  have f2_2 := H1.keep K1 nin0
  have f2_3 := H2.keep K1 nin0
  have f2_4 := H3.keep K1 nin0
  have f2_5 := H4.keep K1 nin0
  have f2_6 := H5.keep K1 nin0
  have f2_7 := (Keep.refl h0 [ar]).trans K1 all0
  have N1 := Fr.app N0 N1q
  refine Wp.back (U' := (T1.setTop (mkF m 4 #[.val (.ref ar), .val (.ref x1), .val (.ref x2), .val (.int p3), .val (.int p4), .val (.int p5)] []))) (fun t k => st1.trans k) ?_
  refine Wp.back (U' := (T1.setTop (mkF m 6 #[.val (.ref ar), .val (.ref x1), .val (.ref x2), .val (.int p3), .val (.int p4), .val (.int p5)] [(.ref x1), (.ref ar)]))) (fun t k => XS.aloadN X1.here hx rfl (hb hby d6_4) rfl rfl (XS.aloadN X1.here hx rfl (hb hby d6_5) rfl rfl k)) ?_
  obtain ⟨T3, h3, X3, e3, W3, st3⟩ := putF X1 hx hZ hown (host := "") (Or.inl (hw _ (List.mem_of_getElem? (i := 45) rfl))) Via.refl rfl f2_2 f2_1 (Or.inr ⟨(hw _ (List.mem_of_getElem? (i := 46) rfl)), rfl, hnm⟩) (hw _ (List.mem_of_getElem? (i := 28) rfl)) (ty := (.object "com/example/query_to_table/querytotable/sql/Token$Kind")) (by decide) rfl rfl (g := (mkF m 6 #[.val (.ref ar), .val (.ref x1), .val (.ref x2), .val (.int p3), .val (.int p4), .val (.int p5)] [(.ref x1), (.ref ar)])) rfl rfl (hb hby d6_6)
  have Fw3 := f2_2.same W3
  have f4_0 := Nat.le_trans f2_0 (Keep.of_wr W3).1
  have f4_1 := f2_1.wr W3
  have f4_2 := f2_3.other W3 (Or.inr (slot_ne (Or.inr (hw _ (List.mem_of_getElem? (i := 48) rfl))) (Or.inr (hw _ (List.mem_of_getElem? (i := 46) rfl))) (by decide) (t := (.object "java/lang/String")) (t' := (.object "com/example/query_to_table/querytotable/sql/Token$Kind")) (by decide) (by decide)))
  have f4_3 := f2_4.other W3 (Or.inr (slot_ne (Or.inr (hw _ (List.mem_of_getElem? (i := 50) rfl))) (Or.inr (hw _ (List.mem_of_getElem? (i := 46) rfl))) (by decide) (t := .int) (t' := (.object "com/example/query_to_table/querytotable/sql/Token$Kind")) (by decide) (by decide)))
  have f4_4 := f2_5.other W3 (Or.inr (slot_ne (Or.inr (hw _ (List.mem_of_getElem? (i := 52) rfl))) (Or.inr (hw _ (List.mem_of_getElem? (i := 46) rfl))) (by decide) (t := .int) (t' := (.object "com/example/query_to_table/querytotable/sql/Token$Kind")) (by decide) (by decide)))
  have f4_5 := f2_6.other W3 (Or.inr (slot_ne (Or.inr (hw _ (List.mem_of_getElem? (i := 54) rfl))) (Or.inr (hw _ (List.mem_of_getElem? (i := 46) rfl))) (by decide) (t := .int) (t' := (.object "com/example/query_to_table/querytotable/sql/Token$Kind")) (by decide) (by decide)))
  have f4_6 := f2_7.wr W3 (Or.inl (List.mem_of_getElem? (i := 0) rfl))
  have N3 := Fr.snoc X3 N1 g_ar
  refine Wp.back (U' := (T3.setTop (mkF m 9 #[.val (.ref ar), .val (.ref x1), .val (.ref x2), .val (.int p3), .val (.int p4), .val (.int p5)] []))) st3 ?_
  refine Wp.back (U' := (T3.setTop (mkF m 11 #[.val (.ref ar), .val (.ref x1), .val (.ref x2), .val (.int p3), .val (.int p4), .val (.int p5)] [(.ref x2), (.ref ar)]))) (fun t k => XS.aloadN X3.here hx rfl (hb hby d6_9) rfl rfl (XS.aloadN X3.here hx rfl (hb hby d6_10) rfl rfl k)) ?_
  obtain ⟨T5, h5, X5, e5, W5, st5⟩ := putF X3 hx hZ hown (host := "") (Or.inl (hw _ (List.mem_of_getElem? (i := 47) rfl))) Via.refl e3 f4_2 f4_1 (Or.inr ⟨(hw _ (List.mem_of_getElem? (i := 48) rfl)), rfl, hnm⟩) (hw _ (List.mem_of_getElem? (i := 28) rfl)) (ty := (.object "java/lang/String")) (by decide) rfl rfl (g := (mkF m 11 #[.val (.ref ar), .val (.ref x1), .val (.ref x2), .val (.int p3), .val (.int p4), .val (.int p5)] [(.ref x2), (.ref ar)])) rfl rfl (hb hby d6_11)
  have Fw5 := f4_2.same W5
  have f6_0 := Nat.le_trans f4_0 (Keep.of_wr W5).1
  have f6_1 := f4_1.wr W5
  have f6_2 := f4_3.other W5 (Or.inr (slot_ne (Or.inr (hw _ (List.mem_of_getElem? (i := 50) rfl))) (Or.inr (hw _ (List.mem_of_getElem? (i := 48) rfl))) (by decide) (t := .int) (t' := (.object "java/lang/String")) (by decide) (by decide)))
  have f6_3 := f4_4.other W5 (Or.inr (slot_ne (Or.inr (hw _ (List.mem_of_getElem? (i := 52) rfl))) (Or.inr (hw _ (List.mem_of_getElem? (i := 48) rfl))) (by decide) (t := .int) (t' := (.object "java/lang/String")) (by decide) (by decide)))
  have f6_4 := f4_5.other W5 (Or.inr (slot_ne (Or.inr (hw _ (List.mem_of_getElem? (i := 54) rfl))) (Or.inr (hw _ (List.mem_of_getElem? (i := 48) rfl))) (by decide) (t := .int) (t' := (.object "java/lang/String")) (by decide) (by decide)))
  have f6_5 := f4_6.wr W5 (Or.inl (List.mem_of_getElem? (i := 0) rfl))
  have f6_6 := Fw3.other W5 (Or.inr (slot_ne (Or.inr (hw _ (List.mem_of_getElem? (i := 46) rfl))) (Or.inr (hw _ (List.mem_of_getElem? (i := 48) rfl))) (by decide) (t := (.object "com/example/query_to_table/querytotable/sql/Token$Kind")) (t' := (.object "java/lang/String")) (by decide) (by decide)))
  have N5 := Fr.snoc X5 N3 g_ar
  refine Wp.back (U' := (T5.setTop (mkF m 14 #[.val (.ref ar), .val (.ref x1), .val (.ref x2), .val (.int p3), .val (.int p4), .val (.int p5)] []))) st5 ?_
  refine Wp.back (U' := (T5.setTop (mkF m 16 #[.val (.ref ar), .val (.ref x1), .val (.ref x2), .val (.int p3), .val (.int p4), .val (.int p5)] [(.int p3), (.ref ar)]))) (fun t k => XS.aloadN X5.here hx rfl (hb hby d6_14) rfl rfl (XS.iloadN X5.here hx rfl (hb hby d6_15) rfl k)) ?_
  obtain ⟨T7, h7, X7, e7, W7, st7⟩ := putF X5 hx hZ hown (host := "") (Or.inl (hw _ (List.mem_of_getElem? (i := 49) rfl))) Via.refl e5 f6_2 f6_1 (Or.inr ⟨(hw _ (List.mem_of_getElem? (i := 50) rfl)), rfl, hnm⟩) (hw _ (List.mem_of_getElem? (i := 28) rfl)) (ty := .int) (by decide) rfl rfl (g := (mkF m 16 #[.val (.ref ar), .val (.ref x1), .val (.ref x2), .val (.int p3), .val (.int p4), .val (.int p5)] [(.int p3), (.ref ar)])) rfl rfl (hb hby d6_16)
  have Fw7 := f6_2.same W7
  have f8_0 := Nat.le_trans f6_0 (Keep.of_wr W7).1
  have f8_1 := f6_1.wr W7
  have f8_2 := f6_3.other W7 (Or.inr (slot_ne (Or.inr (hw _ (List.mem_of_getElem? (i := 52) rfl))) (Or.inr (hw _ (List.mem_of_getElem? (i := 50) rfl))) (by decide) (t := .int) (t' := .int) (by decide) (by decide)))
  have f8_3 := f6_4.other W7 (Or.inr (slot_ne (Or.inr (hw _ (List.mem_of_getElem? (i := 54) rfl))) (Or.inr (hw _ (List.mem_of_getElem? (i := 50) rfl))) (by decide) (t := .int) (t' := .int) (by decide) (by decide)))
  have f8_4 := f6_5.wr W7 (Or.inl (List.mem_of_getElem? (i := 0) rfl))
  have f8_5 := f6_6.other W7 (Or.inr (slot_ne (Or.inr (hw _ (List.mem_of_getElem? (i := 46) rfl))) (Or.inr (hw _ (List.mem_of_getElem? (i := 50) rfl))) (by decide) (t := (.object "com/example/query_to_table/querytotable/sql/Token$Kind")) (t' := .int) (by decide) (by decide)))
  have f8_6 := Fw5.other W7 (Or.inr (slot_ne (Or.inr (hw _ (List.mem_of_getElem? (i := 48) rfl))) (Or.inr (hw _ (List.mem_of_getElem? (i := 50) rfl))) (by decide) (t := (.object "java/lang/String")) (t' := .int) (by decide) (by decide)))
  have N7 := Fr.snoc X7 N5 g_ar
  refine Wp.back (U' := (T7.setTop (mkF m 19 #[.val (.ref ar), .val (.ref x1), .val (.ref x2), .val (.int p3), .val (.int p4), .val (.int p5)] []))) st7 ?_
  refine Wp.back (U' := (T7.setTop (mkF m 22 #[.val (.ref ar), .val (.ref x1), .val (.ref x2), .val (.int p3), .val (.int p4), .val (.int p5)] [(.int p4), (.ref ar)]))) (fun t k => XS.aloadN X7.here hx rfl (hb hby d6_19) rfl rfl (XS.iload X7.here hx rfl (hb hby d6_20) rfl k)) ?_
  obtain ⟨T9, h9, X9, e9, W9, st9⟩ := putF X7 hx hZ hown (host := "") (Or.inl (hw _ (List.mem_of_getElem? (i := 51) rfl))) Via.refl e7 f8_2 f8_1 (Or.inr ⟨(hw _ (List.mem_of_getElem? (i := 52) rfl)), rfl, hnm⟩) (hw _ (List.mem_of_getElem? (i := 28) rfl)) (ty := .int) (by decide) rfl rfl (g := (mkF m 22 #[.val (.ref ar), .val (.ref x1), .val (.ref x2), .val (.int p3), .val (.int p4), .val (.int p5)] [(.int p4), (.ref ar)])) rfl rfl (hb hby d6_22)
  have Fw9 := f8_2.same W9
  have f10_0 := Nat.le_trans f8_0 (Keep.of_wr W9).1
  have f10_1 := f8_1.wr W9
  have f10_2 := f8_3.other W9 (Or.inr (slot_ne (Or.inr (hw _ (List.mem_of_getElem? (i := 54) rfl))) (Or.inr (hw _ (List.mem_of_getElem? (i := 52) rfl))) (by decide) (t := .int) (t' := .int) (by decide) (by decide)))
  have f10_3 := f8_4.wr W9 (Or.inl (List.mem_of_getElem? (i := 0) rfl))
  have f10_4 := f8_5.other W9 (Or.inr (slot_ne (Or.inr (hw _ (List.mem_of_getElem? (i := 46) rfl))) (Or.inr (hw _ (List.mem_of_getElem? (i := 52) rfl))) (by decide) (t := (.object "com/example/query_to_table/querytotable/sql/Token$Kind")) (t' := .int) (by decide) (by decide)))
  have f10_5 := f8_6.other W9 (Or.inr (slot_ne (Or.inr (hw _ (List.mem_of_getElem? (i := 48) rfl))) (Or.inr (hw _ (List.mem_of_getElem? (i := 52) rfl))) (by decide) (t := (.object "java/lang/String")) (t' := .int) (by decide) (by decide)))
  have f10_6 := Fw7.other W9 (Or.inr (slot_ne (Or.inr (hw _ (List.mem_of_getElem? (i := 50) rfl))) (Or.inr (hw _ (List.mem_of_getElem? (i := 52) rfl))) (by decide) (t := .int) (t' := .int) (by decide) (by decide)))
  have N9 := Fr.snoc X9 N7 g_ar
  refine Wp.back (U' := (T9.setTop (mkF m 25 #[.val (.ref ar), .val (.ref x1), .val (.ref x2), .val (.int p3), .val (.int p4), .val (.int p5)] []))) st9 ?_
  refine Wp.back (U' := (T9.setTop (mkF m 28 #[.val (.ref ar), .val (.ref x1), .val (.ref x2), .val (.int p3), .val (.int p4), .val (.int p5)] [(.int p5), (.ref ar)]))) (fun t k => XS.aloadN X9.here hx rfl (hb hby d6_25) rfl rfl (XS.iload X9.here hx rfl (hb hby d6_26) rfl k)) ?_
  obtain ⟨T11, h11, X11, e11, W11, st11⟩ := putF X9 hx hZ hown (host := "") (Or.inl (hw _ (List.mem_of_getElem? (i := 53) rfl))) Via.refl e9 f10_2 f10_1 (Or.inr ⟨(hw _ (List.mem_of_getElem? (i := 54) rfl)), rfl, hnm⟩) (hw _ (List.mem_of_getElem? (i := 28) rfl)) (ty := .int) (by decide) rfl rfl (g := (mkF m 28 #[.val (.ref ar), .val (.ref x1), .val (.ref x2), .val (.int p3), .val (.int p4), .val (.int p5)] [(.int p5), (.ref ar)])) rfl rfl (hb hby d6_28)
  have Fw11 := f10_2.same W11
  have f12_0 := Nat.le_trans f10_0 (Keep.of_wr W11).1
  have f12_1 := f10_1.wr W11
  have f12_2 := f10_3.wr W11 (Or.inl (List.mem_of_getElem? (i := 0) rfl))
  have f12_3 := f10_4.other W11 (Or.inr (slot_ne (Or.inr (hw _ (List.mem_of_getElem? (i := 46) rfl))) (Or.inr (hw _ (List.mem_of_getElem? (i := 54) rfl))) (by decide) (t := (.object "com/example/query_to_table/querytotable/sql/Token$Kind")) (t' := .int) (by decide) (by decide)))
  have f12_4 := f10_5.other W11 (Or.inr (slot_ne (Or.inr (hw _ (List.mem_of_getElem? (i := 48) rfl))) (Or.inr (hw _ (List.mem_of_getElem? (i := 54) rfl))) (by decide) (t := (.object "java/lang/String")) (t' := .int) (by decide) (by decide)))
  have f12_5 := f10_6.other W11 (Or.inr (slot_ne (Or.inr (hw _ (List.mem_of_getElem? (i := 50) rfl))) (Or.inr (hw _ (List.mem_of_getElem? (i := 54) rfl))) (by decide) (t := .int) (t' := .int) (by decide) (by decide)))
  have f12_6 := Fw9.other W11 (Or.inr (slot_ne (Or.inr (hw _ (List.mem_of_getElem? (i := 52) rfl))) (Or.inr (hw _ (List.mem_of_getElem? (i := 54) rfl))) (by decide) (t := .int) (t' := .int) (by decide) (by decide)))
  have N11 := Fr.snoc X11 N9 g_ar
  refine Wp.back (U' := (T11.setTop (mkF m 31 #[.val (.ref ar), .val (.ref x1), .val (.ref x2), .val (.int p3), .val (.int p4), .val (.int p5)] []))) st11 ?_
  obtain ⟨fs, hr, hrun, hended, hW, hsame⟩ := X11.leave (v := none) (fun _ => rfl)
  refine Wp.done (X11.returnOut hx hret (hb hby d6_31) hr) hrun hended ⟨_, _, rfl, ?_, ⟨_, rfl⟩, hW, hsame.mono (by decide) (by decide)⟩
  show Q_ti Z ar x1 x2 p3 p4 p5 h0 n0 _ T11.heap _
  rw [e11]
  exact ⟨rfl, N11, f12_2, f12_1, f12_3, f12_4⟩
def Q_le0_0 (Z : State) (a1 : Addr) (a2 : Addr) (k1 : ClassId) (k2 : ClassId) (h0 : Heap) (n0 : Nat) (v : Option Value) (h : Heap) (L : List Loc) : Prop := v = some (.int (1 : Int32)) ∧ Fr n0 L ∧ Keep h0 h []
theorem q0_0d13_0 : decode jdk_43_method_13_code 0 = .ok (.aload_n 0, 1) := by decide +kernel
theorem q0_0d13_1 : decode jdk_43_method_13_code 1 = .ok (.arraylength, 1) := by decide +kernel
theorem q0_0d13_2 : decode jdk_43_method_13_code 2 = .ok (.aload_n 1, 1) := by decide +kernel
theorem q0_0d13_3 : decode jdk_43_method_13_code 3 = .ok (.arraylength, 1) := by decide +kernel
theorem q0_0d13_4 : decode jdk_43_method_13_code 4 = .ok (.if_icmp .ne 30, 3) := by decide +kernel
theorem q0_0d13_7 : decode jdk_43_method_13_code 7 = .ok (.iconst 0, 1) := by decide +kernel
theorem q0_0d13_8 : decode jdk_43_method_13_code 8 = .ok (.istore_n 2, 1) := by decide +kernel
theorem q0_0d13_9 : decode jdk_43_method_13_code 9 = .ok (.iload_n 2, 1) := by decide +kernel
theorem q0_0d13_10 : decode jdk_43_method_13_code 10 = .ok (.aload_n 0, 1) := by decide +kernel
theorem q0_0d13_11 : decode jdk_43_method_13_code 11 = .ok (.arraylength, 1) := by decide +kernel
theorem q0_0d13_12 : decode jdk_43_method_13_code 12 = .ok (.if_icmp .ge 20, 3) := by decide +kernel
theorem q0_0d13_32 : decode jdk_43_method_13_code 32 = .ok (.iconst 1, 1) := by decide +kernel
theorem q0_0d13_33 : decode jdk_43_method_13_code 33 = .ok (.ireturn, 1) := by decide +kernel
theorem q0_0pn13 : plainName "java/lang/StringLatin1" = true := by first | (simp [plainName, overriddenIn]; done) | decide +kernel
theorem q0_0ef13 (m : MethodId) (x0 : Addr) (x1 : Addr) : entryFrame m #[(.ref x0), (.ref x1)] 3 = mkF m 0 #[.val (.ref x0), .val (.ref x1), .unset] [] := by first | (simp [entryFrame, mkF, argsToLocals, Value.category]; done) | rfl
set_option maxRecDepth 65536 in
set_option maxHeartbeats 40000000 in
theorem rm_le0_0 (l : Launch) (Z : State) (a0 : Array Value) (hw : ∀ d ∈ tables_1, d.before a0 Z = true) (ws : List Jvm.Cond) (a1 : Addr) (a2 : Addr) (k1 : ClassId) (k2 : ClassId) (h0 : Heap) (n0 : Nat) (Z0 : n0 ≤ h0.size) (H0 : Arv Z h0 a1 k1 .byte (0 : Int32) [] (.int (0 : Int32))) (H1 : Arv Z h0 a2 k2 .byte (0 : Int32) [] (.int (0 : Int32))) :
    MetFree l (⟨"java/lang/StringLatin1", "equals", "([B[B)Z"⟩ : MethodName) (head1 (Jvm.Cond.code (⟨"java/lang/StringLatin1", "equals", "([B[B)Z"⟩ : MethodName) jdk_43_method_13_code 3 (some .boolean) :: ws) ({ frames := 0, cells := 0, slots := 0, locals := 0 } : Room)) (fun a U => a = #[(.ref a1), (.ref a2)] ∧ Z.Warmed39 U.vm ∧ U.heap = h0) (fun _ _ _ _ _ => True) (fun _ U o U' => ∃ v L, o = .returned v ∧ Q_le0_0 Z a1 a2 k1 k2 h0 n0 v U'.heap L ∧ FrameEnd U o U' L ({ frames := 0, cells := 0, slots := 0, locals := 0 } : Room).cells ({ frames := 0, cells := 0, slots := 0, locals := 0 } : Room).slots) := by
  refine MetFree.of_bodySF (plainFor_of_name q0_0pn13) hisR ?_
  intro p e s m args below meth c s₁ Bd hml0 hP hK
  obtain ⟨rfl, hZ, hh⟩ := hP
  have hx := Bd.exec
  have hby := Bd.bytes
  have hret := Bd.returns
  have hlk := Bd.notSynchronized
  have hml : c.maxLocals = 3 := hml0
  have hown : s.vm.findClass "java/lang/StringLatin1" = some m.cls := findClass_of_methodNamed Bd.named
  have hnm := (name_of_methodNamed Bd.named Bd.method).1
  have X0 : Stand p l e ({ frames := 0, cells := 0, slots := 0, locals := 0 } : Room) s m #[(.ref a1), (.ref a2)] below meth c s₁ [] 0 0 := Stand.of_body Bd
  have e0 : s₁.heap = h0 := by rw [← hh, Bd.state]; rfl
  have N0 := Fr.nil n0
  show Wp p e below (fun o s₂ => ∃ v L, o = .returned v ∧ Q_le0_0 Z a1 a2 k1 k2 h0 n0 v s₂.heap L ∧ FrameEnd s o s₂ L ({ frames := 0, cells := 0, slots := 0, locals := 0 } : Room).cells ({ frames := 0, cells := 0, slots := 0, locals := 0 } : Room).slots) _
  refine Wp.back (U' := (s₁.setTop (mkF m 0 #[.val (.ref a1), .val (.ref a2), .unset] []))) (fun t k => castTop (q0_0ef13 m a1 a2) k) ?_
  refine Wp.back (U' := (s₁.setTop (mkF m 1 #[.val (.ref a1), .val (.ref a2), .unset] [(.ref a1)]))) (fun t k => XS.aloadN X0.here hx rfl (hb hby q0_0d13_0) rfl rfl k) ?_
  have vq1 := H0
  obtain ⟨cl1, Ar1, -, qs1, qn1, -, -⟩ := vq1
  refine Wp.back (U' := (s₁.setTop (mkF m 2 #[.val (.ref a1), .val (.ref a2), .unset] [(.int (0 : Int32))]))) (fun t k => X0.arraylength hx (by rw [e0]; exact Ar1.1) (State.isArrayOf_alike hZ.alike Ar1.2.1) (g := (mkF m 1 #[.val (.ref a1), .val (.ref a2), .unset] [(.ref a1)])) rfl rfl (hb hby q0_0d13_1) t (by rw [len_of qs1 qn1]; exact k)) ?_
  refine Wp.back (U' := (s₁.setTop (mkF m 3 #[.val (.ref a1), .val (.ref a2), .unset] [(.ref a2), (.int (0 : Int32))]))) (fun t k => XS.aloadN X0.here hx rfl (hb hby q0_0d13_2) rfl rfl k) ?_
  have vq2 := H1
  obtain ⟨cl2, Ar2, -, qs2, qn2, -, -⟩ := vq2
  refine Wp.back (U' := (s₁.setTop (mkF m 4 #[.val (.ref a1), .val (.ref a2), .unset] [(.int (0 : Int32)), (.int (0 : Int32))]))) (fun t k => X0.arraylength hx (by rw [e0]; exact Ar2.1) (State.isArrayOf_alike hZ.alike Ar2.2.1) (g := (mkF m 3 #[.val (.ref a1), .val (.ref a2), .unset] [(.ref a2), (.int (0 : Int32))])) rfl rfl (hb hby q0_0d13_3) t (by rw [len_of qs2 qn2]; exact k)) ?_
  refine Wp.back (U' := (s₁.setTop (mkF m 11 #[.val (.ref a1), .val (.ref a2), .val (.int (0 : Int32))] [(.ref a1), (.int (0 : Int32))]))) (fun t k => XS.icmpNo X0.here hx rfl (hb hby q0_0d13_4) rfl (teq (by decide)).2 (XT.iconstV X0.here hx rfl (0 : Int32) (hb hby q0_0d13_7) (by decide) (XS.istoreN X0.here hx rfl (hb hby q0_0d13_8) rfl (l' := #[.val (.ref a1), .val (.ref a2), .val (.int (0 : Int32))]) rfl (XS.iloadN X0.here hx rfl (hb hby q0_0d13_9) rfl (XS.aloadN X0.here hx rfl (hb hby q0_0d13_10) rfl rfl k))))) ?_
  have vq3 := H0
  obtain ⟨cl3, Ar3, -, qs3, qn3, -, -⟩ := vq3
  refine Wp.back (U' := (s₁.setTop (mkF m 12 #[.val (.ref a1), .val (.ref a2), .val (.int (0 : Int32))] [(.int (0 : Int32)), (.int (0 : Int32))]))) (fun t k => X0.arraylength hx (by rw [e0]; exact Ar3.1) (State.isArrayOf_alike hZ.alike Ar3.2.1) (g := (mkF m 11 #[.val (.ref a1), .val (.ref a2), .val (.int (0 : Int32))] [(.ref a1), (.int (0 : Int32))])) rfl rfl (hb hby q0_0d13_11) t (by rw [len_of qs3 qn3]; exact k)) ?_
  refine Wp.back (U' := (s₁.setTop (mkF m 33 #[.val (.ref a1), .val (.ref a2), .val (.int (0 : Int32))] [(.int (1 : Int32))]))) (fun t k => XS.icmpYes X0.here hx rfl (pc0 := 12) (pc' := 32) rfl (hb hby q0_0d13_12) rfl (flt (by decide)).2.1 (by decide) (by decide) (XT.iconstV X0.here hx rfl (1 : Int32) (hb hby q0_0d13_32) (by decide) k)) ?_
  obtain ⟨fs, hr, hrun, hended, hW, hsame⟩ := X0.leave (v := (some (.int (1 : Int32)))) (fun h => by rw [hret] at h; cases h)
  refine Wp.done (retN X0 hx (t := .boolean) hret (by simp) (hb hby q0_0d13_33) hr) hrun hended ⟨_, _, rfl, ?_, ⟨_, rfl⟩, hW, hsame.mono (by decide) (by decide)⟩
  show Q_le0_0 Z a1 a2 k1 k2 h0 n0 _ s₁.heap _
  rw [e0]
  exact ⟨rfl, N0, (Keep.refl h0 [])⟩
def Q_eq0_0 (Z : State) (ar : Addr) (br : Addr) (a1 : Addr) (a2 : Addr) (k1 : ClassId) (k2 : ClassId) (cs : Int32) (h0 : Heap) (n0 : Nat) (v : Option Value) (h : Heap) (L : List Loc) : Prop := v = some (.int (1 : Int32)) ∧ Fr n0 L ∧ Keep h0 h []
theorem q0_0d12_0 : decode jdk_42_method_66_code 0 = .ok (.aload_n 0, 1) := by decide +kernel
theorem q0_0d12_1 : decode jdk_42_method_66_code 1 = .ok (.aload_n 1, 1) := by decide +kernel
theorem q0_0d12_2 : decode jdk_42_method_66_code 2 = .ok (.if_acmp .ne 5, 3) := by decide +kernel
theorem q0_0d12_7 : decode jdk_42_method_66_code 7 = .ok (.aload_n 1, 1) := by decide +kernel
theorem q0_0d12_8 : decode jdk_42_method_66_code 8 = .ok (.instanceof 10, 3) := by decide +kernel
theorem q0_0d12_11 : decode jdk_42_method_66_code 11 = .ok (.ifCond .eq 43, 3) := by decide +kernel
theorem q0_0d12_14 : decode jdk_42_method_66_code 14 = .ok (.aload_n 1, 1) := by decide +kernel
theorem q0_0d12_15 : decode jdk_42_method_66_code 15 = .ok (.checkcast 10, 3) := by decide +kernel
theorem q0_0d12_18 : decode jdk_42_method_66_code 18 = .ok (.astore_n 2, 1) := by decide +kernel
theorem q0_0d12_19 : decode jdk_42_method_66_code 19 = .ok (.getstatic 38, 3) := by decide +kernel
theorem q0_0d12_22 : decode jdk_42_method_66_code 22 = .ok (.ifCond .eq 14, 3) := by decide +kernel
theorem q0_0d12_25 : decode jdk_42_method_66_code 25 = .ok (.aload_n 0, 1) := by decide +kernel
theorem q0_0d12_26 : decode jdk_42_method_66_code 26 = .ok (.getfield 15, 3) := by decide +kernel
theorem q0_0d12_29 : decode jdk_42_method_66_code 29 = .ok (.aload_n 2, 1) := by decide +kernel
theorem q0_0d12_30 : decode jdk_42_method_66_code 30 = .ok (.getfield 15, 3) := by decide +kernel
theorem q0_0d12_33 : decode jdk_42_method_66_code 33 = .ok (.if_icmp .ne 21, 3) := by decide +kernel
theorem q0_0d12_36 : decode jdk_42_method_66_code 36 = .ok (.aload_n 0, 1) := by decide +kernel
theorem q0_0d12_37 : decode jdk_42_method_66_code 37 = .ok (.getfield 9, 3) := by decide +kernel
theorem q0_0d12_40 : decode jdk_42_method_66_code 40 = .ok (.aload_n 2, 1) := by decide +kernel
theorem q0_0d12_41 : decode jdk_42_method_66_code 41 = .ok (.getfield 9, 3) := by decide +kernel
theorem q0_0d12_44 : decode jdk_42_method_66_code 44 = .ok (.invokestatic 541, 3) := by decide +kernel
theorem q0_0d12_47 : decode jdk_42_method_66_code 47 = .ok (.ifCond .eq 7, 3) := by decide +kernel
theorem q0_0d12_50 : decode jdk_42_method_66_code 50 = .ok (.iconst 1, 1) := by decide +kernel
theorem q0_0d12_51 : decode jdk_42_method_66_code 51 = .ok (.goto 4, 3) := by decide +kernel
theorem q0_0d12_55 : decode jdk_42_method_66_code 55 = .ok (.ireturn, 1) := by decide +kernel
theorem q0_0pd12_0 : parseMethodDescriptor "([B[B)Z" = some ⟨[(.array .byte), (.array .byte)], some .boolean⟩ := by decide +kernel
theorem q0_0pn12 : plainName "java/lang/String" = true := by first | (simp [plainName, overriddenIn]; done) | decide +kernel
theorem q0_0ef12 (m : MethodId) (x0 : Addr) (x1 : Addr) : entryFrame m #[(.ref x0), (.ref x1)] 3 = mkF m 0 #[.val (.ref x0), .val (.ref x1), .unset] [] := by first | (simp [entryFrame, mkF, argsToLocals, Value.category]; done) | rfl
set_option maxRecDepth 65536 in
set_option maxHeartbeats 40000000 in
theorem rm_eq0_0 (l : Launch) (Z : State) (a0 : Array Value) (hw : ∀ d ∈ tables_1, d.before a0 Z = true) (ws : List Jvm.Cond) (ar : Addr) (br : Addr) (a1 : Addr) (a2 : Addr) (k1 : ClassId) (k2 : ClassId) (cs : Int32) (h0 : Heap) (n0 : Nat) (Z0 : n0 ≤ h0.size) (H0 : Exa Z h0 ar "java/lang/String") (H1 : Fld Z h0 ar "java/lang/String" "value" "[B" (.ref a1)) (H2 : Fld Z h0 ar "java/lang/String" "coder" "B" (.int (0 : Int32))) (H3 : Arv Z h0 a1 k1 .byte (0 : Int32) [] (.int (0 : Int32))) (H4 : Exa Z h0 br "java/lang/String") (H5 : Fld Z h0 br "java/lang/String" "value" "[B" (.ref a2)) (H6 : Fld Z h0 br "java/lang/String" "coder" "B" (.int (0 : Int32))) (H7 : Arv Z h0 a2 k2 .byte (0 : Int32) [] (.int (0 : Int32))) (H8 : Sta Z h0 "java/lang/String" "COMPACT_STRINGS" "Z" (.int cs)) (ne_ar_br : ar ≠ br) (hcs : ¬ cs = (0 : Int32)) :
    MetFree l (⟨"java/lang/String", "equals", "(Ljava/lang/Object;)Z"⟩ : MethodName) (head1 (Jvm.Cond.code (⟨"java/lang/String", "equals", "(Ljava/lang/Object;)Z"⟩ : MethodName) jdk_42_method_66_code 3 (some .boolean) :: ws) ({ frames := 1, cells := 0, slots := 0, locals := 14 } : Room)) (fun a U => a = #[(.ref ar), (.ref br)] ∧ Z.Warmed39 U.vm ∧ U.heap = h0) (fun _ _ _ _ _ => True) (fun _ U o U' => ∃ v L, o = .returned v ∧ Q_eq0_0 Z ar br a1 a2 k1 k2 cs h0 n0 v U'.heap L ∧ FrameEnd U o U' L ({ frames := 1, cells := 0, slots := 0, locals := 14 } : Room).cells ({ frames := 1, cells := 0, slots := 0, locals := 14 } : Room).slots) := by
  refine MetFree.of_bodySF (plainFor_of_name q0_0pn12) hisR ?_
  intro p e s m args below meth c s₁ Bd hml0 hP hK
  obtain ⟨rfl, hZ, hh⟩ := hP
  have hx := Bd.exec
  have hby := Bd.bytes
  have hret := Bd.returns
  have hlk := Bd.notSynchronized
  have hml : c.maxLocals = 3 := hml0
  have hown : s.vm.findClass "java/lang/String" = some m.cls := findClass_of_methodNamed Bd.named
  have hnm := (name_of_methodNamed Bd.named Bd.method).1
  have X0 : Stand p l e ({ frames := 1, cells := 0, slots := 0, locals := 14 } : Room) s m #[(.ref ar), (.ref br)] below meth c s₁ [] 0 0 := Stand.of_body Bd
  have e0 : s₁.heap = h0 := by rw [← hh, Bd.state]; rfl
  have N0 := Fr.nil n0
  show Wp p e below (fun o s₂ => ∃ v L, o = .returned v ∧ Q_eq0_0 Z ar br a1 a2 k1 k2 cs h0 n0 v s₂.heap L ∧ FrameEnd s o s₂ L ({ frames := 1, cells := 0, slots := 0, locals := 14 } : Room).cells ({ frames := 1, cells := 0, slots := 0, locals := 14 } : Room).slots) _
  refine Wp.back (U' := (s₁.setTop (mkF m 0 #[.val (.ref ar), .val (.ref br), .unset] []))) (fun t k => castTop (q0_0ef12 m ar br) k) ?_
  refine Wp.back (U' := (s₁.setTop (mkF m 2 #[.val (.ref ar), .val (.ref br), .unset] [(.ref br), (.ref ar)]))) (fun t k => XS.aloadN X0.here hx rfl (hb hby q0_0d12_0) rfl rfl (XS.aloadN X0.here hx rfl (hb hby q0_0d12_1) rfl rfl k)) ?_
  refine Wp.back (U' := (s₁.setTop (mkF m 7 #[.val (.ref ar), .val (.ref br), .unset] []))) (fun t k => Jvm.RoadKit.acmp (g := (mkF m 2 #[.val (.ref ar), .val (.ref br), .unset] [(.ref br), (.ref ar)])) X0 hx rfl rfl rfl (pc0 := 2) (pc' := 7) (same := false) rfl (hb hby q0_0d12_2) rfl (decide_eq_false fun q => ne_ar_br (Value.ref.inj q)) (by decide) (by decide) k) ?_
  refine Wp.back (U' := (s₁.setTop (mkF m 8 #[.val (.ref ar), .val (.ref br), .unset] [(.ref br)]))) (fun t k => XS.aloadN X0.here hx rfl (hb hby q0_0d12_7) rfl rfl k) ?_
  obtain ⟨T1, X1, e1, st1⟩ := instY X0 hx hZ hown (hw _ (List.mem_of_getElem? (i := 85) rfl)) e0 (Ins.self H4) (g := (mkF m 8 #[.val (.ref ar), .val (.ref br), .unset] [(.ref br)])) rfl rfl (hb hby q0_0d12_8)
  refine Wp.back (U' := (T1.setTop (mkF m 11 #[.val (.ref ar), .val (.ref br), .unset] [(.int (1 : Int32))]))) st1 ?_
  refine Wp.back (U' := (T1.setTop (mkF m 15 #[.val (.ref ar), .val (.ref br), .unset] [(.ref br)]))) (fun t k => XS.ifNo X1.here hx rfl (hb hby q0_0d12_11) rfl ((if0 _ _).trans (feq (by decide)).1) (XS.aloadN X1.here hx rfl (hb hby q0_0d12_14) rfl rfl k)) ?_
  obtain ⟨T2, X2, e2, st2⟩ := castY X1 hx hZ hown (hw _ (List.mem_of_getElem? (i := 85) rfl)) e1 (Ins.self H4) (g := (mkF m 15 #[.val (.ref ar), .val (.ref br), .unset] [(.ref br)])) rfl rfl (hb hby q0_0d12_15)
  refine Wp.back (U' := (T2.setTop (mkF m 18 #[.val (.ref ar), .val (.ref br), .unset] [(.ref br)]))) st2 ?_
  refine Wp.back (U' := (T2.setTop (mkF m 19 #[.val (.ref ar), .val (.ref br), .val (.ref br)] []))) (fun t k => XS.astoreN X2.here hx rfl (hb hby q0_0d12_18) rfl rfl (l' := #[.val (.ref ar), .val (.ref br), .val (.ref br)]) rfl k) ?_
  obtain ⟨T3, X3, e3, st3⟩ := getS2 X2 hx hZ hown (host := "") (Or.inl (hw _ (List.mem_of_getElem? (i := 62) rfl))) Via.refl e2 H8 (g := (mkF m 19 #[.val (.ref ar), .val (.ref br), .val (.ref br)] [])) rfl (hb hby q0_0d12_19)
  refine Wp.back (U' := (T3.setTop (mkF m 22 #[.val (.ref ar), .val (.ref br), .val (.ref br)] [(.int cs)]))) st3 ?_
  refine Wp.back (U' := (T3.setTop (mkF m 26 #[.val (.ref ar), .val (.ref br), .val (.ref br)] [(.ref ar)]))) (fun t k => XS.ifNo X3.here hx rfl (hb hby q0_0d12_22) rfl ((if0 _ _).trans (feq hcs).1) (XS.aloadN X3.here hx rfl (hb hby q0_0d12_25) rfl rfl k)) ?_
  obtain ⟨T4, X4, e4, st4⟩ := getF X3 hx hZ hown (host := "") (Or.inl (hw _ (List.mem_of_getElem? (i := 26) rfl))) Via.refl e3 H2 (g := (mkF m 26 #[.val (.ref ar), .val (.ref br), .val (.ref br)] [(.ref ar)])) rfl rfl (hb hby q0_0d12_26)
  refine Wp.back (U' := (T4.setTop (mkF m 29 #[.val (.ref ar), .val (.ref br), .val (.ref br)] [(.int (0 : Int32))]))) st4 ?_
  refine Wp.back (U' := (T4.setTop (mkF m 30 #[.val (.ref ar), .val (.ref br), .val (.ref br)] [(.ref br), (.int (0 : Int32))]))) (fun t k => XS.aloadN X4.here hx rfl (hb hby q0_0d12_29) rfl rfl k) ?_
  obtain ⟨T5, X5, e5, st5⟩ := getF X4 hx hZ hown (host := "") (Or.inl (hw _ (List.mem_of_getElem? (i := 26) rfl))) Via.refl e4 H6 (g := (mkF m 30 #[.val (.ref ar), .val (.ref br), .val (.ref br)] [(.ref br), (.int (0 : Int32))])) rfl rfl (hb hby q0_0d12_30)
  refine Wp.back (U' := (T5.setTop (mkF m 33 #[.val (.ref ar), .val (.ref br), .val (.ref br)] [(.int (0 : Int32)), (.int (0 : Int32))]))) st5 ?_
  refine Wp.back (U' := (T5.setTop (mkF m 37 #[.val (.ref ar), .val (.ref br), .val (.ref br)] [(.ref ar)]))) (fun t k => XS.icmpNo X5.here hx rfl (hb hby q0_0d12_33) rfl (teq (by decide)).2 (XS.aloadN X5.here hx rfl (hb hby q0_0d12_36) rfl rfl k)) ?_
  obtain ⟨T6, X6, e6, st6⟩ := getF X5 hx hZ hown (host := "") (Or.inl (hw _ (List.mem_of_getElem? (i := 25) rfl))) Via.refl e5 H1 (g := (mkF m 37 #[.val (.ref ar), .val (.ref br), .val (.ref br)] [(.ref ar)])) rfl rfl (hb hby q0_0d12_37)
  refine Wp.back (U' := (T6.setTop (mkF m 40 #[.val (.ref ar), .val (.ref br), .val (.ref br)] [(.ref a1)]))) st6 ?_
  refine Wp.back (U' := (T6.setTop (mkF m 41 #[.val (.ref ar), .val (.ref br), .val (.ref br)] [(.ref br), (.ref a1)]))) (fun t k => XS.aloadN X6.here hx rfl (hb hby q0_0d12_40) rfl rfl k) ?_
  obtain ⟨T7, X7, e7, st7⟩ := getF X6 hx hZ hown (host := "") (Or.inl (hw _ (List.mem_of_getElem? (i := 25) rfl))) Via.refl e6 H5 (g := (mkF m 41 #[.val (.ref ar), .val (.ref br), .val (.ref br)] [(.ref br), (.ref a1)])) rfl rfl (hb hby q0_0d12_41)
  refine Wp.back (U' := (T7.setTop (mkF m 44 #[.val (.ref ar), .val (.ref br), .val (.ref br)] [(.ref a2), (.ref a1)]))) st7 ?_
  obtain ⟨_, _, ⟨T8, L8, k8, n8⟩, -, X8, ⟨Lc8, hQ8, l8, y8, z8⟩, st8⟩ := Jvm.LawKit.callS X7 hx (y := (⟨"java/lang/StringLatin1", "equals", "([B[B)Z"⟩ : MethodName)) hown (mvT hZ (hw _ (List.mem_of_getElem? (i := 86) rfl))) (mvT hZ (hw _ (List.mem_of_getElem? (i := 87) rfl))) (mvT hZ (hw _ (List.mem_of_getElem? (i := 88) rfl))) (mvT hZ (hw _ (List.mem_of_getElem? (i := 89) rfl))) (by decide) (backOf (W := 0) (rm_le0_0 l Z a0 hw [] a1 a2 k1 k2 h0 n0 Z0 H3 H7) hZ (hw _ (List.mem_of_getElem? (i := 89) rfl)) (hw _ (List.mem_of_getElem? (i := 88) rfl)) (by decide) (by decide)) (g := (mkF m 44 #[.val (.ref ar), .val (.ref br), .val (.ref br)] [(.ref a2), (.ref a1)])) rfl (by rw [hml]; rfl) (argsL := [(.ref a1), (.ref a2)]) (rest := []) (lenOf q0_0pd12_0 rfl) rfl (by show 2 * 0 + _ ≤ _; exact Nat.le_of_eq rfl) (hb hby q0_0d12_44) (fun _ _ => ⟨rfl, e7, (by decide : 0 + 0 ≤ _), (by decide : 0 + 0 ≤ _)⟩)
  dsimp only [Pt.U, Pt.locs, Pt.cells, Pt.slots] at X8 l8 y8 z8 st8 hQ8
  subst l8 y8 z8
  obtain ⟨rfl, N8q, K8⟩ := hQ8
  have f9_0 := Nat.le_trans Z0 K8.1
  have f9_1 := H0.keep K8
  have f9_2 := H1.keep K8 nin0
  have f9_3 := H2.keep K8 nin0
  have f9_4 := H3.keep K8 nin0
  have f9_5 := H4.keep K8
  have f9_6 := H5.keep K8 nin0
  have f9_7 := H6.keep K8 nin0
  have f9_8 := H7.keep K8 nin0
  have f9_9 := Sta_keep0 H8 K8
  have f9_10 := (Keep.refl h0 []).trans K8 all0
  have N8 := Fr.app N0 N8q
  refine Wp.back (U' := (T8.setTop (mkF m 47 #[.val (.ref ar), .val (.ref br), .val (.ref br)] [(.int (1 : Int32))]))) st8 ?_
  refine Wp.back (U' := (T8.setTop (mkF m 55 #[.val (.ref ar), .val (.ref br), .val (.ref br)] [(.int (1 : Int32))]))) (fun t k => XS.ifNo X8.here hx rfl (hb hby q0_0d12_47) rfl ((if0 _ _).trans (feq (by decide)).1) (XT.iconstV X8.here hx rfl (1 : Int32) (hb hby q0_0d12_50) (by decide) (XS.goto X8.here hx rfl (pc0 := 51) (pc' := 55) rfl (hb hby q0_0d12_51) (by decide) (by decide) k))) ?_
  obtain ⟨fs, hr, hrun, hended, hW, hsame⟩ := X8.leave (v := (some (.int (1 : Int32)))) (fun h => by rw [hret] at h; cases h)
  refine Wp.done (retN X8 hx (t := .boolean) hret (by simp) (hb hby q0_0d12_55) hr) hrun hended ⟨_, _, rfl, ?_, ⟨_, rfl⟩, hW, hsame.mono (by decide) (by decide)⟩
  show Q_eq0_0 Z ar br a1 a2 k1 k2 cs h0 n0 _ T8.heap _
  exact ⟨rfl, N8, f9_10⟩
def f_leq1_1 (v0 : Int32) (w0 : Int32) : Int32 := (if v0 = w0 then (1 : Int32) else (0 : Int32))
def Q_le1_1 (Z : State) (a1 : Addr) (a2 : Addr) (k1 : ClassId) (k2 : ClassId) (v0 : Int32) (w0 : Int32) (h0 : Heap) (n0 : Nat) (v : Option Value) (h : Heap) (L : List Loc) : Prop := v = some (.int (f_leq1_1 v0 w0)) ∧ Fr n0 L ∧ Keep h0 h []
theorem q1_1d13_0 : decode jdk_43_method_13_code 0 = .ok (.aload_n 0, 1) := by decide +kernel
theorem q1_1d13_1 : decode jdk_43_method_13_code 1 = .ok (.arraylength, 1) := by decide +kernel
theorem q1_1d13_2 : decode jdk_43_method_13_code 2 = .ok (.aload_n 1, 1) := by decide +kernel
theorem q1_1d13_3 : decode jdk_43_method_13_code 3 = .ok (.arraylength, 1) := by decide +kernel
theorem q1_1d13_4 : decode jdk_43_method_13_code 4 = .ok (.if_icmp .ne 30, 3) := by decide +kernel
theorem q1_1d13_7 : decode jdk_43_method_13_code 7 = .ok (.iconst 0, 1) := by decide +kernel
theorem q1_1d13_8 : decode jdk_43_method_13_code 8 = .ok (.istore_n 2, 1) := by decide +kernel
theorem q1_1d13_9 : decode jdk_43_method_13_code 9 = .ok (.iload_n 2, 1) := by decide +kernel
theorem q1_1d13_10 : decode jdk_43_method_13_code 10 = .ok (.aload_n 0, 1) := by decide +kernel
theorem q1_1d13_11 : decode jdk_43_method_13_code 11 = .ok (.arraylength, 1) := by decide +kernel
theorem q1_1d13_12 : decode jdk_43_method_13_code 12 = .ok (.if_icmp .ge 20, 3) := by decide +kernel
theorem q1_1d13_15 : decode jdk_43_method_13_code 15 = .ok (.aload_n 0, 1) := by decide +kernel
theorem q1_1d13_16 : decode jdk_43_method_13_code 16 = .ok (.iload_n 2, 1) := by decide +kernel
theorem q1_1d13_17 : decode jdk_43_method_13_code 17 = .ok (.baload, 1) := by decide +kernel
theorem q1_1d13_18 : decode jdk_43_method_13_code 18 = .ok (.aload_n 1, 1) := by decide +kernel
theorem q1_1d13_19 : decode jdk_43_method_13_code 19 = .ok (.iload_n 2, 1) := by decide +kernel
theorem q1_1d13_20 : decode jdk_43_method_13_code 20 = .ok (.baload, 1) := by decide +kernel
theorem q1_1d13_21 : decode jdk_43_method_13_code 21 = .ok (.if_icmp .eq 5, 3) := by decide +kernel
theorem q1_1d13_24 : decode jdk_43_method_13_code 24 = .ok (.iconst 0, 1) := by decide +kernel
theorem q1_1d13_25 : decode jdk_43_method_13_code 25 = .ok (.ireturn, 1) := by decide +kernel
theorem q1_1d13_26 : decode jdk_43_method_13_code 26 = .ok (.iinc 2 1, 3) := by decide +kernel
theorem q1_1d13_29 : decode jdk_43_method_13_code 29 = .ok (.goto (-20), 3) := by decide +kernel
theorem q1_1d13_32 : decode jdk_43_method_13_code 32 = .ok (.iconst 1, 1) := by decide +kernel
theorem q1_1d13_33 : decode jdk_43_method_13_code 33 = .ok (.ireturn, 1) := by decide +kernel
theorem q1_1pn13 : plainName "java/lang/StringLatin1" = true := by first | (simp [plainName, overriddenIn]; done) | decide +kernel
theorem q1_1ef13 (m : MethodId) (x0 : Addr) (x1 : Addr) : entryFrame m #[(.ref x0), (.ref x1)] 3 = mkF m 0 #[.val (.ref x0), .val (.ref x1), .unset] [] := by first | (simp [entryFrame, mkF, argsToLocals, Value.category]; done) | rfl
set_option maxRecDepth 65536 in
set_option maxHeartbeats 40000000 in
theorem rm_le1_1 (l : Launch) (Z : State) (a0 : Array Value) (hw : ∀ d ∈ tables_1, d.before a0 Z = true) (ws : List Jvm.Cond) (a1 : Addr) (a2 : Addr) (k1 : ClassId) (k2 : ClassId) (v0 : Int32) (w0 : Int32) (h0 : Heap) (n0 : Nat) (Z0 : n0 ≤ h0.size) (H0 : Arv Z h0 a1 k1 .byte (1 : Int32) [(.int v0)] (.int (0 : Int32))) (H1 : Arv Z h0 a2 k2 .byte (1 : Int32) [(.int w0)] (.int (0 : Int32))) :
    MetFree l (⟨"java/lang/StringLatin1", "equals", "([B[B)Z"⟩ : MethodName) (head1 (Jvm.Cond.code (⟨"java/lang/StringLatin1", "equals", "([B[B)Z"⟩ : MethodName) jdk_43_method_13_code 3 (some .boolean) :: ws) ({ frames := 0, cells := 0, slots := 0, locals := 0 } : Room)) (fun a U => a = #[(.ref a1), (.ref a2)] ∧ Z.Warmed39 U.vm ∧ U.heap = h0) (fun _ _ _ _ _ => True) (fun _ U o U' => ∃ v L, o = .returned v ∧ Q_le1_1 Z a1 a2 k1 k2 v0 w0 h0 n0 v U'.heap L ∧ FrameEnd U o U' L ({ frames := 0, cells := 0, slots := 0, locals := 0 } : Room).cells ({ frames := 0, cells := 0, slots := 0, locals := 0 } : Room).slots) := by
  refine MetFree.of_bodySF (plainFor_of_name q1_1pn13) hisR ?_
  intro p e s m args below meth c s₁ Bd hml0 hP hK
  obtain ⟨rfl, hZ, hh⟩ := hP
  have hx := Bd.exec
  have hby := Bd.bytes
  have hret := Bd.returns
  have hlk := Bd.notSynchronized
  have hml : c.maxLocals = 3 := hml0
  have hown : s.vm.findClass "java/lang/StringLatin1" = some m.cls := findClass_of_methodNamed Bd.named
  have hnm := (name_of_methodNamed Bd.named Bd.method).1
  have X0 : Stand p l e ({ frames := 0, cells := 0, slots := 0, locals := 0 } : Room) s m #[(.ref a1), (.ref a2)] below meth c s₁ [] 0 0 := Stand.of_body Bd
  have e0 : s₁.heap = h0 := by rw [← hh, Bd.state]; rfl
  have N0 := Fr.nil n0
  show Wp p e below (fun o s₂ => ∃ v L, o = .returned v ∧ Q_le1_1 Z a1 a2 k1 k2 v0 w0 h0 n0 v s₂.heap L ∧ FrameEnd s o s₂ L ({ frames := 0, cells := 0, slots := 0, locals := 0 } : Room).cells ({ frames := 0, cells := 0, slots := 0, locals := 0 } : Room).slots) _
  refine Wp.back (U' := (s₁.setTop (mkF m 0 #[.val (.ref a1), .val (.ref a2), .unset] []))) (fun t k => castTop (q1_1ef13 m a1 a2) k) ?_
  refine Wp.back (U' := (s₁.setTop (mkF m 1 #[.val (.ref a1), .val (.ref a2), .unset] [(.ref a1)]))) (fun t k => XS.aloadN X0.here hx rfl (hb hby q1_1d13_0) rfl rfl k) ?_
  have vq1 := H0
  obtain ⟨cl1, Ar1, -, qs1, qn1, -, -⟩ := vq1
  refine Wp.back (U' := (s₁.setTop (mkF m 2 #[.val (.ref a1), .val (.ref a2), .unset] [(.int (1 : Int32))]))) (fun t k => X0.arraylength hx (by rw [e0]; exact Ar1.1) (State.isArrayOf_alike hZ.alike Ar1.2.1) (g := (mkF m 1 #[.val (.ref a1), .val (.ref a2), .unset] [(.ref a1)])) rfl rfl (hb hby q1_1d13_1) t (by rw [len_of qs1 qn1]; exact k)) ?_
  refine Wp.back (U' := (s₁.setTop (mkF m 3 #[.val (.ref a1), .val (.ref a2), .unset] [(.ref a2), (.int (1 : Int32))]))) (fun t k => XS.aloadN X0.here hx rfl (hb hby q1_1d13_2) rfl rfl k) ?_
  have vq2 := H1
  obtain ⟨cl2, Ar2, -, qs2, qn2, -, -⟩ := vq2
  refine Wp.back (U' := (s₁.setTop (mkF m 4 #[.val (.ref a1), .val (.ref a2), .unset] [(.int (1 : Int32)), (.int (1 : Int32))]))) (fun t k => X0.arraylength hx (by rw [e0]; exact Ar2.1) (State.isArrayOf_alike hZ.alike Ar2.2.1) (g := (mkF m 3 #[.val (.ref a1), .val (.ref a2), .unset] [(.ref a2), (.int (1 : Int32))])) rfl rfl (hb hby q1_1d13_3) t (by rw [len_of qs2 qn2]; exact k)) ?_
  refine Wp.back (U' := (s₁.setTop (mkF m 11 #[.val (.ref a1), .val (.ref a2), .val (.int (0 : Int32))] [(.ref a1), (.int (0 : Int32))]))) (fun t k => XS.icmpNo X0.here hx rfl (hb hby q1_1d13_4) rfl (teq (by decide)).2 (XT.iconstV X0.here hx rfl (0 : Int32) (hb hby q1_1d13_7) (by decide) (XS.istoreN X0.here hx rfl (hb hby q1_1d13_8) rfl (l' := #[.val (.ref a1), .val (.ref a2), .val (.int (0 : Int32))]) rfl (XS.iloadN X0.here hx rfl (hb hby q1_1d13_9) rfl (XS.aloadN X0.here hx rfl (hb hby q1_1d13_10) rfl rfl k))))) ?_
  have vq3 := H0
  obtain ⟨cl3, Ar3, -, qs3, qn3, -, -⟩ := vq3
  refine Wp.back (U' := (s₁.setTop (mkF m 12 #[.val (.ref a1), .val (.ref a2), .val (.int (0 : Int32))] [(.int (1 : Int32)), (.int (0 : Int32))]))) (fun t k => X0.arraylength hx (by rw [e0]; exact Ar3.1) (State.isArrayOf_alike hZ.alike Ar3.2.1) (g := (mkF m 11 #[.val (.ref a1), .val (.ref a2), .val (.int (0 : Int32))] [(.ref a1), (.int (0 : Int32))])) rfl rfl (hb hby q1_1d13_11) t (by rw [len_of qs3 qn3]; exact k)) ?_
  refine Wp.back (U' := (s₁.setTop (mkF m 17 #[.val (.ref a1), .val (.ref a2), .val (.int (0 : Int32))] [(.int (0 : Int32)), (.ref a1)]))) (fun t k => XS.icmpNo X0.here hx rfl (hb hby q1_1d13_12) rfl (tlt (by decide)).2.1 (XS.aloadN X0.here hx rfl (hb hby q1_1d13_15) rfl rfl (XS.iloadN X0.here hx rfl (hb hby q1_1d13_16) rfl k))) ?_
  have vq4 := H0
  obtain ⟨cl4, Ar4, qa4, qs4, qn4, qh4, qg4⟩ := vq4
  have hin4 : ¬ ((0 : Int32) < 0 ∨ cl4.slots.size ≤ ((0 : Int32)).toNatClampNeg) := inb_of qs4 ⟨by decide, by decide⟩
  have hat4 : cl4.slots[((0 : Int32)).toNatClampNeg]? = some (.int v0) := Has.at qh4 hin4 rfl
  refine Wp.back (U' := (s₁.setTop (mkF m 18 #[.val (.ref a1), .val (.ref a2), .val (.int (0 : Int32))] [(.int v0)]))) (fun t k => X0.baloadBytes hx (j := (0 : Int32)) (v := (.int v0)) (by rw [e0]; exact Ar4.1) (State.isArrayOf_alike hZ.alike Ar4.2.1) Ar4.2.2 hin4 hat4 (g := (mkF m 17 #[.val (.ref a1), .val (.ref a2), .val (.int (0 : Int32))] [(.int (0 : Int32)), (.ref a1)])) rfl rfl (hb hby q1_1d13_17) t k) ?_
  refine Wp.back (U' := (s₁.setTop (mkF m 20 #[.val (.ref a1), .val (.ref a2), .val (.int (0 : Int32))] [(.int (0 : Int32)), (.ref a2), (.int v0)]))) (fun t k => XS.aloadN X0.here hx rfl (hb hby q1_1d13_18) rfl rfl (XS.iloadN X0.here hx rfl (hb hby q1_1d13_19) rfl k)) ?_
  have vq5 := H1
  obtain ⟨cl5, Ar5, qa5, qs5, qn5, qh5, qg5⟩ := vq5
  have hin5 : ¬ ((0 : Int32) < 0 ∨ cl5.slots.size ≤ ((0 : Int32)).toNatClampNeg) := inb_of qs5 ⟨by decide, by decide⟩
  have hat5 : cl5.slots[((0 : Int32)).toNatClampNeg]? = some (.int w0) := Has.at qh5 hin5 rfl
  refine Wp.back (U' := (s₁.setTop (mkF m 21 #[.val (.ref a1), .val (.ref a2), .val (.int (0 : Int32))] [(.int w0), (.int v0)]))) (fun t k => X0.baloadBytes hx (j := (0 : Int32)) (v := (.int w0)) (by rw [e0]; exact Ar5.1) (State.isArrayOf_alike hZ.alike Ar5.2.1) Ar5.2.2 hin5 hat5 (g := (mkF m 20 #[.val (.ref a1), .val (.ref a2), .val (.int (0 : Int32))] [(.int (0 : Int32)), (.ref a2), (.int v0)])) rfl rfl (hb hby q1_1d13_20) t k) ?_
  by_cases c21_6 : v0 = w0
  · refine Wp.back (U' := (s₁.setTop (mkF m 11 #[.val (.ref a1), .val (.ref a2), .val (.int (1 : Int32))] [(.ref a1), (.int (1 : Int32))]))) (fun t k => XS.icmpYes X0.here hx rfl (pc0 := 21) (pc' := 26) rfl (hb hby q1_1d13_21) rfl (teq c21_6).1 (by decide) (by decide) (XT.iincV X0.here hx rfl (1 : Int32) (hb hby q1_1d13_26) (by decide) rfl (l' := #[.val (.ref a1), .val (.ref a2), .val (.int (1 : Int32))]) rfl (XS.goto X0.here hx rfl (pc0 := 29) (pc' := 9) rfl (hb hby q1_1d13_29) (by decide) (by decide) (XS.iloadN X0.here hx rfl (hb hby q1_1d13_9) rfl (XS.aloadN X0.here hx rfl (hb hby q1_1d13_10) rfl rfl k))))) ?_
    have vq7 := H0
    obtain ⟨cl7, Ar7, -, qs7, qn7, -, -⟩ := vq7
    refine Wp.back (U' := (s₁.setTop (mkF m 12 #[.val (.ref a1), .val (.ref a2), .val (.int (1 : Int32))] [(.int (1 : Int32)), (.int (1 : Int32))]))) (fun t k => X0.arraylength hx (by rw [e0]; exact Ar7.1) (State.isArrayOf_alike hZ.alike Ar7.2.1) (g := (mkF m 11 #[.val (.ref a1), .val (.ref a2), .val (.int (1 : Int32))] [(.ref a1), (.int (1 : Int32))])) rfl rfl (hb hby q1_1d13_11) t (by rw [len_of qs7 qn7]; exact k)) ?_
    refine Wp.back (U' := (s₁.setTop (mkF m 33 #[.val (.ref a1), .val (.ref a2), .val (.int (1 : Int32))] [(.int (1 : Int32))]))) (fun t k => XS.icmpYes X0.here hx rfl (pc0 := 12) (pc' := 32) rfl (hb hby q1_1d13_12) rfl (flt (by decide)).2.1 (by decide) (by decide) (XT.iconstV X0.here hx rfl (1 : Int32) (hb hby q1_1d13_32) (by decide) k)) ?_
    obtain ⟨fs, hr, hrun, hended, hW, hsame⟩ := X0.leave (v := (some (.int (1 : Int32)))) (fun h => by rw [hret] at h; cases h)
    refine Wp.done (retN X0 hx (t := .boolean) hret (by simp) (hb hby q1_1d13_33) hr) hrun hended ⟨_, _, rfl, ?_, ⟨_, rfl⟩, hW, hsame.mono (by decide) (by decide)⟩
    show Q_le1_1 Z a1 a2 k1 k2 v0 w0 h0 n0 _ s₁.heap _
    rw [e0]
    exact ⟨(by rw [f_leq1_1, if_pos c21_6]), N0, (Keep.refl h0 [])⟩
  · refine Wp.back (U' := (s₁.setTop (mkF m 25 #[.val (.ref a1), .val (.ref a2), .val (.int (0 : Int32))] [(.int (0 : Int32))]))) (fun t k => XS.icmpNo X0.here hx rfl (hb hby q1_1d13_21) rfl (feq c21_6).1 (XT.iconstV X0.here hx rfl (0 : Int32) (hb hby q1_1d13_24) (by decide) k)) ?_
    obtain ⟨fs, hr, hrun, hended, hW, hsame⟩ := X0.leave (v := (some (.int (0 : Int32)))) (fun h => by rw [hret] at h; cases h)
    refine Wp.done (retN X0 hx (t := .boolean) hret (by simp) (hb hby q1_1d13_25) hr) hrun hended ⟨_, _, rfl, ?_, ⟨_, rfl⟩, hW, hsame.mono (by decide) (by decide)⟩
    show Q_le1_1 Z a1 a2 k1 k2 v0 w0 h0 n0 _ s₁.heap _
    rw [e0]
    exact ⟨(by rw [f_leq1_1, if_neg c21_6]), N0, (Keep.refl h0 [])⟩
def f_eq1_1 (v0 : Int32) (w0 : Int32) : Int32 := (if (f_leq1_1 v0 w0) = (0 : Int32) then (0 : Int32) else (1 : Int32))
def Q_eq1_1 (Z : State) (ar : Addr) (br : Addr) (a1 : Addr) (a2 : Addr) (k1 : ClassId) (k2 : ClassId) (cs : Int32) (v0 : Int32) (w0 : Int32) (h0 : Heap) (n0 : Nat) (v : Option Value) (h : Heap) (L : List Loc) : Prop := v = some (.int (f_eq1_1 v0 w0)) ∧ Fr n0 L ∧ Keep h0 h []
theorem q1_1d12_0 : decode jdk_42_method_66_code 0 = .ok (.aload_n 0, 1) := by decide +kernel
theorem q1_1d12_1 : decode jdk_42_method_66_code 1 = .ok (.aload_n 1, 1) := by decide +kernel
theorem q1_1d12_2 : decode jdk_42_method_66_code 2 = .ok (.if_acmp .ne 5, 3) := by decide +kernel
theorem q1_1d12_7 : decode jdk_42_method_66_code 7 = .ok (.aload_n 1, 1) := by decide +kernel
theorem q1_1d12_8 : decode jdk_42_method_66_code 8 = .ok (.instanceof 10, 3) := by decide +kernel
theorem q1_1d12_11 : decode jdk_42_method_66_code 11 = .ok (.ifCond .eq 43, 3) := by decide +kernel
theorem q1_1d12_14 : decode jdk_42_method_66_code 14 = .ok (.aload_n 1, 1) := by decide +kernel
theorem q1_1d12_15 : decode jdk_42_method_66_code 15 = .ok (.checkcast 10, 3) := by decide +kernel
theorem q1_1d12_18 : decode jdk_42_method_66_code 18 = .ok (.astore_n 2, 1) := by decide +kernel
theorem q1_1d12_19 : decode jdk_42_method_66_code 19 = .ok (.getstatic 38, 3) := by decide +kernel
theorem q1_1d12_22 : decode jdk_42_method_66_code 22 = .ok (.ifCond .eq 14, 3) := by decide +kernel
theorem q1_1d12_25 : decode jdk_42_method_66_code 25 = .ok (.aload_n 0, 1) := by decide +kernel
theorem q1_1d12_26 : decode jdk_42_method_66_code 26 = .ok (.getfield 15, 3) := by decide +kernel
theorem q1_1d12_29 : decode jdk_42_method_66_code 29 = .ok (.aload_n 2, 1) := by decide +kernel
theorem q1_1d12_30 : decode jdk_42_method_66_code 30 = .ok (.getfield 15, 3) := by decide +kernel
theorem q1_1d12_33 : decode jdk_42_method_66_code 33 = .ok (.if_icmp .ne 21, 3) := by decide +kernel
theorem q1_1d12_36 : decode jdk_42_method_66_code 36 = .ok (.aload_n 0, 1) := by decide +kernel
theorem q1_1d12_37 : decode jdk_42_method_66_code 37 = .ok (.getfield 9, 3) := by decide +kernel
theorem q1_1d12_40 : decode jdk_42_method_66_code 40 = .ok (.aload_n 2, 1) := by decide +kernel
theorem q1_1d12_41 : decode jdk_42_method_66_code 41 = .ok (.getfield 9, 3) := by decide +kernel
theorem q1_1d12_44 : decode jdk_42_method_66_code 44 = .ok (.invokestatic 541, 3) := by decide +kernel
theorem q1_1d12_47 : decode jdk_42_method_66_code 47 = .ok (.ifCond .eq 7, 3) := by decide +kernel
theorem q1_1d12_50 : decode jdk_42_method_66_code 50 = .ok (.iconst 1, 1) := by decide +kernel
theorem q1_1d12_51 : decode jdk_42_method_66_code 51 = .ok (.goto 4, 3) := by decide +kernel
theorem q1_1d12_54 : decode jdk_42_method_66_code 54 = .ok (.iconst 0, 1) := by decide +kernel
theorem q1_1d12_55 : decode jdk_42_method_66_code 55 = .ok (.ireturn, 1) := by decide +kernel
theorem q1_1pd12_0 : parseMethodDescriptor "([B[B)Z" = some ⟨[(.array .byte), (.array .byte)], some .boolean⟩ := by decide +kernel
theorem q1_1pn12 : plainName "java/lang/String" = true := by first | (simp [plainName, overriddenIn]; done) | decide +kernel
theorem q1_1ef12 (m : MethodId) (x0 : Addr) (x1 : Addr) : entryFrame m #[(.ref x0), (.ref x1)] 3 = mkF m 0 #[.val (.ref x0), .val (.ref x1), .unset] [] := by first | (simp [entryFrame, mkF, argsToLocals, Value.category]; done) | rfl
set_option maxRecDepth 65536 in
set_option maxHeartbeats 40000000 in
theorem rm_eq1_1 (l : Launch) (Z : State) (a0 : Array Value) (hw : ∀ d ∈ tables_1, d.before a0 Z = true) (ws : List Jvm.Cond) (ar : Addr) (br : Addr) (a1 : Addr) (a2 : Addr) (k1 : ClassId) (k2 : ClassId) (cs : Int32) (v0 : Int32) (w0 : Int32) (h0 : Heap) (n0 : Nat) (Z0 : n0 ≤ h0.size) (H0 : Exa Z h0 ar "java/lang/String") (H1 : Fld Z h0 ar "java/lang/String" "value" "[B" (.ref a1)) (H2 : Fld Z h0 ar "java/lang/String" "coder" "B" (.int (0 : Int32))) (H3 : Arv Z h0 a1 k1 .byte (1 : Int32) [(.int v0)] (.int (0 : Int32))) (H4 : Exa Z h0 br "java/lang/String") (H5 : Fld Z h0 br "java/lang/String" "value" "[B" (.ref a2)) (H6 : Fld Z h0 br "java/lang/String" "coder" "B" (.int (0 : Int32))) (H7 : Arv Z h0 a2 k2 .byte (1 : Int32) [(.int w0)] (.int (0 : Int32))) (H8 : Sta Z h0 "java/lang/String" "COMPACT_STRINGS" "Z" (.int cs)) (ne_ar_br : ar ≠ br) (hcs : ¬ cs = (0 : Int32)) :
    MetFree l (⟨"java/lang/String", "equals", "(Ljava/lang/Object;)Z"⟩ : MethodName) (head1 (Jvm.Cond.code (⟨"java/lang/String", "equals", "(Ljava/lang/Object;)Z"⟩ : MethodName) jdk_42_method_66_code 3 (some .boolean) :: ws) ({ frames := 1, cells := 0, slots := 0, locals := 14 } : Room)) (fun a U => a = #[(.ref ar), (.ref br)] ∧ Z.Warmed39 U.vm ∧ U.heap = h0) (fun _ _ _ _ _ => True) (fun _ U o U' => ∃ v L, o = .returned v ∧ Q_eq1_1 Z ar br a1 a2 k1 k2 cs v0 w0 h0 n0 v U'.heap L ∧ FrameEnd U o U' L ({ frames := 1, cells := 0, slots := 0, locals := 14 } : Room).cells ({ frames := 1, cells := 0, slots := 0, locals := 14 } : Room).slots) := by
  refine MetFree.of_bodySF (plainFor_of_name q1_1pn12) hisR ?_
  intro p e s m args below meth c s₁ Bd hml0 hP hK
  obtain ⟨rfl, hZ, hh⟩ := hP
  have hx := Bd.exec
  have hby := Bd.bytes
  have hret := Bd.returns
  have hlk := Bd.notSynchronized
  have hml : c.maxLocals = 3 := hml0
  have hown : s.vm.findClass "java/lang/String" = some m.cls := findClass_of_methodNamed Bd.named
  have hnm := (name_of_methodNamed Bd.named Bd.method).1
  have X0 : Stand p l e ({ frames := 1, cells := 0, slots := 0, locals := 14 } : Room) s m #[(.ref ar), (.ref br)] below meth c s₁ [] 0 0 := Stand.of_body Bd
  have e0 : s₁.heap = h0 := by rw [← hh, Bd.state]; rfl
  have N0 := Fr.nil n0
  show Wp p e below (fun o s₂ => ∃ v L, o = .returned v ∧ Q_eq1_1 Z ar br a1 a2 k1 k2 cs v0 w0 h0 n0 v s₂.heap L ∧ FrameEnd s o s₂ L ({ frames := 1, cells := 0, slots := 0, locals := 14 } : Room).cells ({ frames := 1, cells := 0, slots := 0, locals := 14 } : Room).slots) _
  refine Wp.back (U' := (s₁.setTop (mkF m 0 #[.val (.ref ar), .val (.ref br), .unset] []))) (fun t k => castTop (q1_1ef12 m ar br) k) ?_
  refine Wp.back (U' := (s₁.setTop (mkF m 2 #[.val (.ref ar), .val (.ref br), .unset] [(.ref br), (.ref ar)]))) (fun t k => XS.aloadN X0.here hx rfl (hb hby q1_1d12_0) rfl rfl (XS.aloadN X0.here hx rfl (hb hby q1_1d12_1) rfl rfl k)) ?_
  refine Wp.back (U' := (s₁.setTop (mkF m 7 #[.val (.ref ar), .val (.ref br), .unset] []))) (fun t k => Jvm.RoadKit.acmp (g := (mkF m 2 #[.val (.ref ar), .val (.ref br), .unset] [(.ref br), (.ref ar)])) X0 hx rfl rfl rfl (pc0 := 2) (pc' := 7) (same := false) rfl (hb hby q1_1d12_2) rfl (decide_eq_false fun q => ne_ar_br (Value.ref.inj q)) (by decide) (by decide) k) ?_
  refine Wp.back (U' := (s₁.setTop (mkF m 8 #[.val (.ref ar), .val (.ref br), .unset] [(.ref br)]))) (fun t k => XS.aloadN X0.here hx rfl (hb hby q1_1d12_7) rfl rfl k) ?_
  obtain ⟨T1, X1, e1, st1⟩ := instY X0 hx hZ hown (hw _ (List.mem_of_getElem? (i := 85) rfl)) e0 (Ins.self H4) (g := (mkF m 8 #[.val (.ref ar), .val (.ref br), .unset] [(.ref br)])) rfl rfl (hb hby q1_1d12_8)
  refine Wp.back (U' := (T1.setTop (mkF m 11 #[.val (.ref ar), .val (.ref br), .unset] [(.int (1 : Int32))]))) st1 ?_
  refine Wp.back (U' := (T1.setTop (mkF m 15 #[.val (.ref ar), .val (.ref br), .unset] [(.ref br)]))) (fun t k => XS.ifNo X1.here hx rfl (hb hby q1_1d12_11) rfl ((if0 _ _).trans (feq (by decide)).1) (XS.aloadN X1.here hx rfl (hb hby q1_1d12_14) rfl rfl k)) ?_
  obtain ⟨T2, X2, e2, st2⟩ := castY X1 hx hZ hown (hw _ (List.mem_of_getElem? (i := 85) rfl)) e1 (Ins.self H4) (g := (mkF m 15 #[.val (.ref ar), .val (.ref br), .unset] [(.ref br)])) rfl rfl (hb hby q1_1d12_15)
  refine Wp.back (U' := (T2.setTop (mkF m 18 #[.val (.ref ar), .val (.ref br), .unset] [(.ref br)]))) st2 ?_
  refine Wp.back (U' := (T2.setTop (mkF m 19 #[.val (.ref ar), .val (.ref br), .val (.ref br)] []))) (fun t k => XS.astoreN X2.here hx rfl (hb hby q1_1d12_18) rfl rfl (l' := #[.val (.ref ar), .val (.ref br), .val (.ref br)]) rfl k) ?_
  obtain ⟨T3, X3, e3, st3⟩ := getS2 X2 hx hZ hown (host := "") (Or.inl (hw _ (List.mem_of_getElem? (i := 62) rfl))) Via.refl e2 H8 (g := (mkF m 19 #[.val (.ref ar), .val (.ref br), .val (.ref br)] [])) rfl (hb hby q1_1d12_19)
  refine Wp.back (U' := (T3.setTop (mkF m 22 #[.val (.ref ar), .val (.ref br), .val (.ref br)] [(.int cs)]))) st3 ?_
  refine Wp.back (U' := (T3.setTop (mkF m 26 #[.val (.ref ar), .val (.ref br), .val (.ref br)] [(.ref ar)]))) (fun t k => XS.ifNo X3.here hx rfl (hb hby q1_1d12_22) rfl ((if0 _ _).trans (feq hcs).1) (XS.aloadN X3.here hx rfl (hb hby q1_1d12_25) rfl rfl k)) ?_
  obtain ⟨T4, X4, e4, st4⟩ := getF X3 hx hZ hown (host := "") (Or.inl (hw _ (List.mem_of_getElem? (i := 26) rfl))) Via.refl e3 H2 (g := (mkF m 26 #[.val (.ref ar), .val (.ref br), .val (.ref br)] [(.ref ar)])) rfl rfl (hb hby q1_1d12_26)
  refine Wp.back (U' := (T4.setTop (mkF m 29 #[.val (.ref ar), .val (.ref br), .val (.ref br)] [(.int (0 : Int32))]))) st4 ?_
  refine Wp.back (U' := (T4.setTop (mkF m 30 #[.val (.ref ar), .val (.ref br), .val (.ref br)] [(.ref br), (.int (0 : Int32))]))) (fun t k => XS.aloadN X4.here hx rfl (hb hby q1_1d12_29) rfl rfl k) ?_
  obtain ⟨T5, X5, e5, st5⟩ := getF X4 hx hZ hown (host := "") (Or.inl (hw _ (List.mem_of_getElem? (i := 26) rfl))) Via.refl e4 H6 (g := (mkF m 30 #[.val (.ref ar), .val (.ref br), .val (.ref br)] [(.ref br), (.int (0 : Int32))])) rfl rfl (hb hby q1_1d12_30)
  refine Wp.back (U' := (T5.setTop (mkF m 33 #[.val (.ref ar), .val (.ref br), .val (.ref br)] [(.int (0 : Int32)), (.int (0 : Int32))]))) st5 ?_
  refine Wp.back (U' := (T5.setTop (mkF m 37 #[.val (.ref ar), .val (.ref br), .val (.ref br)] [(.ref ar)]))) (fun t k => XS.icmpNo X5.here hx rfl (hb hby q1_1d12_33) rfl (teq (by decide)).2 (XS.aloadN X5.here hx rfl (hb hby q1_1d12_36) rfl rfl k)) ?_
  obtain ⟨T6, X6, e6, st6⟩ := getF X5 hx hZ hown (host := "") (Or.inl (hw _ (List.mem_of_getElem? (i := 25) rfl))) Via.refl e5 H1 (g := (mkF m 37 #[.val (.ref ar), .val (.ref br), .val (.ref br)] [(.ref ar)])) rfl rfl (hb hby q1_1d12_37)
  refine Wp.back (U' := (T6.setTop (mkF m 40 #[.val (.ref ar), .val (.ref br), .val (.ref br)] [(.ref a1)]))) st6 ?_
  refine Wp.back (U' := (T6.setTop (mkF m 41 #[.val (.ref ar), .val (.ref br), .val (.ref br)] [(.ref br), (.ref a1)]))) (fun t k => XS.aloadN X6.here hx rfl (hb hby q1_1d12_40) rfl rfl k) ?_
  obtain ⟨T7, X7, e7, st7⟩ := getF X6 hx hZ hown (host := "") (Or.inl (hw _ (List.mem_of_getElem? (i := 25) rfl))) Via.refl e6 H5 (g := (mkF m 41 #[.val (.ref ar), .val (.ref br), .val (.ref br)] [(.ref br), (.ref a1)])) rfl rfl (hb hby q1_1d12_41)
  refine Wp.back (U' := (T7.setTop (mkF m 44 #[.val (.ref ar), .val (.ref br), .val (.ref br)] [(.ref a2), (.ref a1)]))) st7 ?_
  obtain ⟨_, _, ⟨T8, L8, k8, n8⟩, -, X8, ⟨Lc8, hQ8, l8, y8, z8⟩, st8⟩ := Jvm.LawKit.callS X7 hx (y := (⟨"java/lang/StringLatin1", "equals", "([B[B)Z"⟩ : MethodName)) hown (mvT hZ (hw _ (List.mem_of_getElem? (i := 86) rfl))) (mvT hZ (hw _ (List.mem_of_getElem? (i := 87) rfl))) (mvT hZ (hw _ (List.mem_of_getElem? (i := 88) rfl))) (mvT hZ (hw _ (List.mem_of_getElem? (i := 89) rfl))) (by decide) (backOf (W := 0) (rm_le1_1 l Z a0 hw [] a1 a2 k1 k2 v0 w0 h0 n0 Z0 H3 H7) hZ (hw _ (List.mem_of_getElem? (i := 89) rfl)) (hw _ (List.mem_of_getElem? (i := 88) rfl)) (by decide) (by decide)) (g := (mkF m 44 #[.val (.ref ar), .val (.ref br), .val (.ref br)] [(.ref a2), (.ref a1)])) rfl (by rw [hml]; rfl) (argsL := [(.ref a1), (.ref a2)]) (rest := []) (lenOf q1_1pd12_0 rfl) rfl (by show 2 * 0 + _ ≤ _; exact Nat.le_of_eq rfl) (hb hby q1_1d12_44) (fun _ _ => ⟨rfl, e7, (by decide : 0 + 0 ≤ _), (by decide : 0 + 0 ≤ _)⟩)
  dsimp only [Pt.U, Pt.locs, Pt.cells, Pt.slots] at X8 l8 y8 z8 st8 hQ8
  subst l8 y8 z8
  obtain ⟨rfl, N8q, K8⟩ := hQ8
  have f9_0 := Nat.le_trans Z0 K8.1
  have f9_1 := H0.keep K8
  have f9_2 := H1.keep K8 nin0
  have f9_3 := H2.keep K8 nin0
  have f9_4 := H3.keep K8 nin0
  have f9_5 := H4.keep K8
  have f9_6 := H5.keep K8 nin0
  have f9_7 := H6.keep K8 nin0
  have f9_8 := H7.keep K8 nin0
  have f9_9 := Sta_keep0 H8 K8
  have f9_10 := (Keep.refl h0 []).trans K8 all0
  have N8 := Fr.app N0 N8q
  refine Wp.back (U' := (T8.setTop (mkF m 47 #[.val (.ref ar), .val (.ref br), .val (.ref br)] [(.int (f_leq1_1 v0 w0))]))) st8 ?_
  by_cases c47_10 : (f_leq1_1 v0 w0) = (0 : Int32)
  · refine Wp.back (U' := (T8.setTop (mkF m 55 #[.val (.ref ar), .val (.ref br), .val (.ref br)] [(.int (0 : Int32))]))) (fun t k => XS.ifYes X8.here hx rfl (pc0 := 47) (pc' := 54) rfl (hb hby q1_1d12_47) rfl ((if0 _ _).trans (teq c47_10).1) (by decide) (by decide) (XT.iconstV X8.here hx rfl (0 : Int32) (hb hby q1_1d12_54) (by decide) k)) ?_
    obtain ⟨fs, hr, hrun, hended, hW, hsame⟩ := X8.leave (v := (some (.int (0 : Int32)))) (fun h => by rw [hret] at h; cases h)
    refine Wp.done (retN X8 hx (t := .boolean) hret (by simp) (hb hby q1_1d12_55) hr) hrun hended ⟨_, _, rfl, ?_, ⟨_, rfl⟩, hW, hsame.mono (by decide) (by decide)⟩
    show Q_eq1_1 Z ar br a1 a2 k1 k2 cs v0 w0 h0 n0 _ T8.heap _
    exact ⟨(by rw [f_eq1_1, if_pos c47_10]), N8, f9_10⟩
  · refine Wp.back (U' := (T8.setTop (mkF m 55 #[.val (.ref ar), .val (.ref br), .val (.ref br)] [(.int (1 : Int32))]))) (fun t k => XS.ifNo X8.here hx rfl (hb hby q1_1d12_47) rfl ((if0 _ _).trans (feq c47_10).1) (XT.iconstV X8.here hx rfl (1 : Int32) (hb hby q1_1d12_50) (by decide) (XS.goto X8.here hx rfl (pc0 := 51) (pc' := 55) rfl (hb hby q1_1d12_51) (by decide) (by decide) k))) ?_
    obtain ⟨fs, hr, hrun, hended, hW, hsame⟩ := X8.leave (v := (some (.int (1 : Int32)))) (fun h => by rw [hret] at h; cases h)
    refine Wp.done (retN X8 hx (t := .boolean) hret (by simp) (hb hby q1_1d12_55) hr) hrun hended ⟨_, _, rfl, ?_, ⟨_, rfl⟩, hW, hsame.mono (by decide) (by decide)⟩
    show Q_eq1_1 Z ar br a1 a2 k1 k2 cs v0 w0 h0 n0 _ T8.heap _
    exact ⟨(by rw [f_eq1_1, if_neg c47_10]), N8, f9_10⟩
def f_leq2_2 (v0 : Int32) (v1 : Int32) (w0 : Int32) (w1 : Int32) : Int32 := (if v0 = w0 then (if v1 = w1 then (1 : Int32) else (0 : Int32)) else (0 : Int32))
def Q_le2_2 (Z : State) (a1 : Addr) (a2 : Addr) (k1 : ClassId) (k2 : ClassId) (v0 : Int32) (v1 : Int32) (w0 : Int32) (w1 : Int32) (h0 : Heap) (n0 : Nat) (v : Option Value) (h : Heap) (L : List Loc) : Prop := v = some (.int (f_leq2_2 v0 v1 w0 w1)) ∧ Fr n0 L ∧ Keep h0 h []
theorem q2_2d13_0 : decode jdk_43_method_13_code 0 = .ok (.aload_n 0, 1) := by decide +kernel
theorem q2_2d13_1 : decode jdk_43_method_13_code 1 = .ok (.arraylength, 1) := by decide +kernel
theorem q2_2d13_2 : decode jdk_43_method_13_code 2 = .ok (.aload_n 1, 1) := by decide +kernel
theorem q2_2d13_3 : decode jdk_43_method_13_code 3 = .ok (.arraylength, 1) := by decide +kernel
theorem q2_2d13_4 : decode jdk_43_method_13_code 4 = .ok (.if_icmp .ne 30, 3) := by decide +kernel
theorem q2_2d13_7 : decode jdk_43_method_13_code 7 = .ok (.iconst 0, 1) := by decide +kernel
theorem q2_2d13_8 : decode jdk_43_method_13_code 8 = .ok (.istore_n 2, 1) := by decide +kernel
theorem q2_2d13_9 : decode jdk_43_method_13_code 9 = .ok (.iload_n 2, 1) := by decide +kernel
theorem q2_2d13_10 : decode jdk_43_method_13_code 10 = .ok (.aload_n 0, 1) := by decide +kernel
theorem q2_2d13_11 : decode jdk_43_method_13_code 11 = .ok (.arraylength, 1) := by decide +kernel
theorem q2_2d13_12 : decode jdk_43_method_13_code 12 = .ok (.if_icmp .ge 20, 3) := by decide +kernel
theorem q2_2d13_15 : decode jdk_43_method_13_code 15 = .ok (.aload_n 0, 1) := by decide +kernel
theorem q2_2d13_16 : decode jdk_43_method_13_code 16 = .ok (.iload_n 2, 1) := by decide +kernel
theorem q2_2d13_17 : decode jdk_43_method_13_code 17 = .ok (.baload, 1) := by decide +kernel
theorem q2_2d13_18 : decode jdk_43_method_13_code 18 = .ok (.aload_n 1, 1) := by decide +kernel
theorem q2_2d13_19 : decode jdk_43_method_13_code 19 = .ok (.iload_n 2, 1) := by decide +kernel
theorem q2_2d13_20 : decode jdk_43_method_13_code 20 = .ok (.baload, 1) := by decide +kernel
theorem q2_2d13_21 : decode jdk_43_method_13_code 21 = .ok (.if_icmp .eq 5, 3) := by decide +kernel
theorem q2_2d13_24 : decode jdk_43_method_13_code 24 = .ok (.iconst 0, 1) := by decide +kernel
theorem q2_2d13_25 : decode jdk_43_method_13_code 25 = .ok (.ireturn, 1) := by decide +kernel
theorem q2_2d13_26 : decode jdk_43_method_13_code 26 = .ok (.iinc 2 1, 3) := by decide +kernel
theorem q2_2d13_29 : decode jdk_43_method_13_code 29 = .ok (.goto (-20), 3) := by decide +kernel
theorem q2_2d13_32 : decode jdk_43_method_13_code 32 = .ok (.iconst 1, 1) := by decide +kernel
theorem q2_2d13_33 : decode jdk_43_method_13_code 33 = .ok (.ireturn, 1) := by decide +kernel
theorem q2_2pn13 : plainName "java/lang/StringLatin1" = true := by first | (simp [plainName, overriddenIn]; done) | decide +kernel
theorem q2_2ef13 (m : MethodId) (x0 : Addr) (x1 : Addr) : entryFrame m #[(.ref x0), (.ref x1)] 3 = mkF m 0 #[.val (.ref x0), .val (.ref x1), .unset] [] := by first | (simp [entryFrame, mkF, argsToLocals, Value.category]; done) | rfl
set_option maxRecDepth 65536 in
set_option maxHeartbeats 40000000 in
theorem rm_le2_2 (l : Launch) (Z : State) (a0 : Array Value) (hw : ∀ d ∈ tables_1, d.before a0 Z = true) (ws : List Jvm.Cond) (a1 : Addr) (a2 : Addr) (k1 : ClassId) (k2 : ClassId) (v0 : Int32) (v1 : Int32) (w0 : Int32) (w1 : Int32) (h0 : Heap) (n0 : Nat) (Z0 : n0 ≤ h0.size) (H0 : Arv Z h0 a1 k1 .byte (2 : Int32) [(.int v0), (.int v1)] (.int (0 : Int32))) (H1 : Arv Z h0 a2 k2 .byte (2 : Int32) [(.int w0), (.int w1)] (.int (0 : Int32))) :
    MetFree l (⟨"java/lang/StringLatin1", "equals", "([B[B)Z"⟩ : MethodName) (head1 (Jvm.Cond.code (⟨"java/lang/StringLatin1", "equals", "([B[B)Z"⟩ : MethodName) jdk_43_method_13_code 3 (some .boolean) :: ws) ({ frames := 0, cells := 0, slots := 0, locals := 0 } : Room)) (fun a U => a = #[(.ref a1), (.ref a2)] ∧ Z.Warmed39 U.vm ∧ U.heap = h0) (fun _ _ _ _ _ => True) (fun _ U o U' => ∃ v L, o = .returned v ∧ Q_le2_2 Z a1 a2 k1 k2 v0 v1 w0 w1 h0 n0 v U'.heap L ∧ FrameEnd U o U' L ({ frames := 0, cells := 0, slots := 0, locals := 0 } : Room).cells ({ frames := 0, cells := 0, slots := 0, locals := 0 } : Room).slots) := by
  refine MetFree.of_bodySF (plainFor_of_name q2_2pn13) hisR ?_
  intro p e s m args below meth c s₁ Bd hml0 hP hK
  obtain ⟨rfl, hZ, hh⟩ := hP
  have hx := Bd.exec
  have hby := Bd.bytes
  have hret := Bd.returns
  have hlk := Bd.notSynchronized
  have hml : c.maxLocals = 3 := hml0
  have hown : s.vm.findClass "java/lang/StringLatin1" = some m.cls := findClass_of_methodNamed Bd.named
  have hnm := (name_of_methodNamed Bd.named Bd.method).1
  have X0 : Stand p l e ({ frames := 0, cells := 0, slots := 0, locals := 0 } : Room) s m #[(.ref a1), (.ref a2)] below meth c s₁ [] 0 0 := Stand.of_body Bd
  have e0 : s₁.heap = h0 := by rw [← hh, Bd.state]; rfl
  have N0 := Fr.nil n0
  show Wp p e below (fun o s₂ => ∃ v L, o = .returned v ∧ Q_le2_2 Z a1 a2 k1 k2 v0 v1 w0 w1 h0 n0 v s₂.heap L ∧ FrameEnd s o s₂ L ({ frames := 0, cells := 0, slots := 0, locals := 0 } : Room).cells ({ frames := 0, cells := 0, slots := 0, locals := 0 } : Room).slots) _
  refine Wp.back (U' := (s₁.setTop (mkF m 0 #[.val (.ref a1), .val (.ref a2), .unset] []))) (fun t k => castTop (q2_2ef13 m a1 a2) k) ?_
  refine Wp.back (U' := (s₁.setTop (mkF m 1 #[.val (.ref a1), .val (.ref a2), .unset] [(.ref a1)]))) (fun t k => XS.aloadN X0.here hx rfl (hb hby q2_2d13_0) rfl rfl k) ?_
  have vq1 := H0
  obtain ⟨cl1, Ar1, -, qs1, qn1, -, -⟩ := vq1
  refine Wp.back (U' := (s₁.setTop (mkF m 2 #[.val (.ref a1), .val (.ref a2), .unset] [(.int (2 : Int32))]))) (fun t k => X0.arraylength hx (by rw [e0]; exact Ar1.1) (State.isArrayOf_alike hZ.alike Ar1.2.1) (g := (mkF m 1 #[.val (.ref a1), .val (.ref a2), .unset] [(.ref a1)])) rfl rfl (hb hby q2_2d13_1) t (by rw [len_of qs1 qn1]; exact k)) ?_
  refine Wp.back (U' := (s₁.setTop (mkF m 3 #[.val (.ref a1), .val (.ref a2), .unset] [(.ref a2), (.int (2 : Int32))]))) (fun t k => XS.aloadN X0.here hx rfl (hb hby q2_2d13_2) rfl rfl k) ?_
  have vq2 := H1
  obtain ⟨cl2, Ar2, -, qs2, qn2, -, -⟩ := vq2
  refine Wp.back (U' := (s₁.setTop (mkF m 4 #[.val (.ref a1), .val (.ref a2), .unset] [(.int (2 : Int32)), (.int (2 : Int32))]))) (fun t k => X0.arraylength hx (by rw [e0]; exact Ar2.1) (State.isArrayOf_alike hZ.alike Ar2.2.1) (g := (mkF m 3 #[.val (.ref a1), .val (.ref a2), .unset] [(.ref a2), (.int (2 : Int32))])) rfl rfl (hb hby q2_2d13_3) t (by rw [len_of qs2 qn2]; exact k)) ?_
  refine Wp.back (U' := (s₁.setTop (mkF m 11 #[.val (.ref a1), .val (.ref a2), .val (.int (0 : Int32))] [(.ref a1), (.int (0 : Int32))]))) (fun t k => XS.icmpNo X0.here hx rfl (hb hby q2_2d13_4) rfl (teq (by decide)).2 (XT.iconstV X0.here hx rfl (0 : Int32) (hb hby q2_2d13_7) (by decide) (XS.istoreN X0.here hx rfl (hb hby q2_2d13_8) rfl (l' := #[.val (.ref a1), .val (.ref a2), .val (.int (0 : Int32))]) rfl (XS.iloadN X0.here hx rfl (hb hby q2_2d13_9) rfl (XS.aloadN X0.here hx rfl (hb hby q2_2d13_10) rfl rfl k))))) ?_
  have vq3 := H0
  obtain ⟨cl3, Ar3, -, qs3, qn3, -, -⟩ := vq3
  refine Wp.back (U' := (s₁.setTop (mkF m 12 #[.val (.ref a1), .val (.ref a2), .val (.int (0 : Int32))] [(.int (2 : Int32)), (.int (0 : Int32))]))) (fun t k => X0.arraylength hx (by rw [e0]; exact Ar3.1) (State.isArrayOf_alike hZ.alike Ar3.2.1) (g := (mkF m 11 #[.val (.ref a1), .val (.ref a2), .val (.int (0 : Int32))] [(.ref a1), (.int (0 : Int32))])) rfl rfl (hb hby q2_2d13_11) t (by rw [len_of qs3 qn3]; exact k)) ?_
  refine Wp.back (U' := (s₁.setTop (mkF m 17 #[.val (.ref a1), .val (.ref a2), .val (.int (0 : Int32))] [(.int (0 : Int32)), (.ref a1)]))) (fun t k => XS.icmpNo X0.here hx rfl (hb hby q2_2d13_12) rfl (tlt (by decide)).2.1 (XS.aloadN X0.here hx rfl (hb hby q2_2d13_15) rfl rfl (XS.iloadN X0.here hx rfl (hb hby q2_2d13_16) rfl k))) ?_
  have vq4 := H0
  obtain ⟨cl4, Ar4, qa4, qs4, qn4, qh4, qg4⟩ := vq4
  have hin4 : ¬ ((0 : Int32) < 0 ∨ cl4.slots.size ≤ ((0 : Int32)).toNatClampNeg) := inb_of qs4 ⟨by decide, by decide⟩
  have hat4 : cl4.slots[((0 : Int32)).toNatClampNeg]? = some (.int v0) := Has.at qh4 hin4 rfl
  refine Wp.back (U' := (s₁.setTop (mkF m 18 #[.val (.ref a1), .val (.ref a2), .val (.int (0 : Int32))] [(.int v0)]))) (fun t k => X0.baloadBytes hx (j := (0 : Int32)) (v := (.int v0)) (by rw [e0]; exact Ar4.1) (State.isArrayOf_alike hZ.alike Ar4.2.1) Ar4.2.2 hin4 hat4 (g := (mkF m 17 #[.val (.ref a1), .val (.ref a2), .val (.int (0 : Int32))] [(.int (0 : Int32)), (.ref a1)])) rfl rfl (hb hby q2_2d13_17) t k) ?_
  refine Wp.back (U' := (s₁.setTop (mkF m 20 #[.val (.ref a1), .val (.ref a2), .val (.int (0 : Int32))] [(.int (0 : Int32)), (.ref a2), (.int v0)]))) (fun t k => XS.aloadN X0.here hx rfl (hb hby q2_2d13_18) rfl rfl (XS.iloadN X0.here hx rfl (hb hby q2_2d13_19) rfl k)) ?_
  have vq5 := H1
  obtain ⟨cl5, Ar5, qa5, qs5, qn5, qh5, qg5⟩ := vq5
  have hin5 : ¬ ((0 : Int32) < 0 ∨ cl5.slots.size ≤ ((0 : Int32)).toNatClampNeg) := inb_of qs5 ⟨by decide, by decide⟩
  have hat5 : cl5.slots[((0 : Int32)).toNatClampNeg]? = some (.int w0) := Has.at qh5 hin5 rfl
  refine Wp.back (U' := (s₁.setTop (mkF m 21 #[.val (.ref a1), .val (.ref a2), .val (.int (0 : Int32))] [(.int w0), (.int v0)]))) (fun t k => X0.baloadBytes hx (j := (0 : Int32)) (v := (.int w0)) (by rw [e0]; exact Ar5.1) (State.isArrayOf_alike hZ.alike Ar5.2.1) Ar5.2.2 hin5 hat5 (g := (mkF m 20 #[.val (.ref a1), .val (.ref a2), .val (.int (0 : Int32))] [(.int (0 : Int32)), (.ref a2), (.int v0)])) rfl rfl (hb hby q2_2d13_20) t k) ?_
  by_cases c21_6 : v0 = w0
  · refine Wp.back (U' := (s₁.setTop (mkF m 11 #[.val (.ref a1), .val (.ref a2), .val (.int (1 : Int32))] [(.ref a1), (.int (1 : Int32))]))) (fun t k => XS.icmpYes X0.here hx rfl (pc0 := 21) (pc' := 26) rfl (hb hby q2_2d13_21) rfl (teq c21_6).1 (by decide) (by decide) (XT.iincV X0.here hx rfl (1 : Int32) (hb hby q2_2d13_26) (by decide) rfl (l' := #[.val (.ref a1), .val (.ref a2), .val (.int (1 : Int32))]) rfl (XS.goto X0.here hx rfl (pc0 := 29) (pc' := 9) rfl (hb hby q2_2d13_29) (by decide) (by decide) (XS.iloadN X0.here hx rfl (hb hby q2_2d13_9) rfl (XS.aloadN X0.here hx rfl (hb hby q2_2d13_10) rfl rfl k))))) ?_
    have vq7 := H0
    obtain ⟨cl7, Ar7, -, qs7, qn7, -, -⟩ := vq7
    refine Wp.back (U' := (s₁.setTop (mkF m 12 #[.val (.ref a1), .val (.ref a2), .val (.int (1 : Int32))] [(.int (2 : Int32)), (.int (1 : Int32))]))) (fun t k => X0.arraylength hx (by rw [e0]; exact Ar7.1) (State.isArrayOf_alike hZ.alike Ar7.2.1) (g := (mkF m 11 #[.val (.ref a1), .val (.ref a2), .val (.int (1 : Int32))] [(.ref a1), (.int (1 : Int32))])) rfl rfl (hb hby q2_2d13_11) t (by rw [len_of qs7 qn7]; exact k)) ?_
    refine Wp.back (U' := (s₁.setTop (mkF m 17 #[.val (.ref a1), .val (.ref a2), .val (.int (1 : Int32))] [(.int (1 : Int32)), (.ref a1)]))) (fun t k => XS.icmpNo X0.here hx rfl (hb hby q2_2d13_12) rfl (tlt (by decide)).2.1 (XS.aloadN X0.here hx rfl (hb hby q2_2d13_15) rfl rfl (XS.iloadN X0.here hx rfl (hb hby q2_2d13_16) rfl k))) ?_
    have vq8 := H0
    obtain ⟨cl8, Ar8, qa8, qs8, qn8, qh8, qg8⟩ := vq8
    have hin8 : ¬ ((1 : Int32) < 0 ∨ cl8.slots.size ≤ ((1 : Int32)).toNatClampNeg) := inb_of qs8 ⟨by decide, by decide⟩
    have hat8 : cl8.slots[((1 : Int32)).toNatClampNeg]? = some (.int v1) := Has.at qh8 hin8 rfl
    refine Wp.back (U' := (s₁.setTop (mkF m 18 #[.val (.ref a1), .val (.ref a2), .val (.int (1 : Int32))] [(.int v1)]))) (fun t k => X0.baloadBytes hx (j := (1 : Int32)) (v := (.int v1)) (by rw [e0]; exact Ar8.1) (State.isArrayOf_alike hZ.alike Ar8.2.1) Ar8.2.2 hin8 hat8 (g := (mkF m 17 #[.val (.ref a1), .val (.ref a2), .val (.int (1 : Int32))] [(.int (1 : Int32)), (.ref a1)])) rfl rfl (hb hby q2_2d13_17) t k) ?_
    refine Wp.back (U' := (s₁.setTop (mkF m 20 #[.val (.ref a1), .val (.ref a2), .val (.int (1 : Int32))] [(.int (1 : Int32)), (.ref a2), (.int v1)]))) (fun t k => XS.aloadN X0.here hx rfl (hb hby q2_2d13_18) rfl rfl (XS.iloadN X0.here hx rfl (hb hby q2_2d13_19) rfl k)) ?_
    have vq9 := H1
    obtain ⟨cl9, Ar9, qa9, qs9, qn9, qh9, qg9⟩ := vq9
    have hin9 : ¬ ((1 : Int32) < 0 ∨ cl9.slots.size ≤ ((1 : Int32)).toNatClampNeg) := inb_of qs9 ⟨by decide, by decide⟩
    have hat9 : cl9.slots[((1 : Int32)).toNatClampNeg]? = some (.int w1) := Has.at qh9 hin9 rfl
    refine Wp.back (U' := (s₁.setTop (mkF m 21 #[.val (.ref a1), .val (.ref a2), .val (.int (1 : Int32))] [(.int w1), (.int v1)]))) (fun t k => X0.baloadBytes hx (j := (1 : Int32)) (v := (.int w1)) (by rw [e0]; exact Ar9.1) (State.isArrayOf_alike hZ.alike Ar9.2.1) Ar9.2.2 hin9 hat9 (g := (mkF m 20 #[.val (.ref a1), .val (.ref a2), .val (.int (1 : Int32))] [(.int (1 : Int32)), (.ref a2), (.int v1)])) rfl rfl (hb hby q2_2d13_20) t k) ?_
    by_cases c21_10 : v1 = w1
    · refine Wp.back (U' := (s₁.setTop (mkF m 11 #[.val (.ref a1), .val (.ref a2), .val (.int (2 : Int32))] [(.ref a1), (.int (2 : Int32))]))) (fun t k => XS.icmpYes X0.here hx rfl (pc0 := 21) (pc' := 26) rfl (hb hby q2_2d13_21) rfl (teq c21_10).1 (by decide) (by decide) (XT.iincV X0.here hx rfl (1 : Int32) (hb hby q2_2d13_26) (by decide) rfl (l' := #[.val (.ref a1), .val (.ref a2), .val (.int (2 : Int32))]) rfl (XS.goto X0.here hx rfl (pc0 := 29) (pc' := 9) rfl (hb hby q2_2d13_29) (by decide) (by decide) (XS.iloadN X0.here hx rfl (hb hby q2_2d13_9) rfl (XS.aloadN X0.here hx rfl (hb hby q2_2d13_10) rfl rfl k))))) ?_
      have vq11 := H0
      obtain ⟨cl11, Ar11, -, qs11, qn11, -, -⟩ := vq11
      refine Wp.back (U' := (s₁.setTop (mkF m 12 #[.val (.ref a1), .val (.ref a2), .val (.int (2 : Int32))] [(.int (2 : Int32)), (.int (2 : Int32))]))) (fun t k => X0.arraylength hx (by rw [e0]; exact Ar11.1) (State.isArrayOf_alike hZ.alike Ar11.2.1) (g := (mkF m 11 #[.val (.ref a1), .val (.ref a2), .val (.int (2 : Int32))] [(.ref a1), (.int (2 : Int32))])) rfl rfl (hb hby q2_2d13_11) t (by rw [len_of qs11 qn11]; exact k)) ?_
      refine Wp.back (U' := (s₁.setTop (mkF m 33 #[.val (.ref a1), .val (.ref a2), .val (.int (2 : Int32))] [(.int (1 : Int32))]))) (fun t k => XS.icmpYes X0.here hx rfl (pc0 := 12) (pc' := 32) rfl (hb hby q2_2d13_12) rfl (flt (by decide)).2.1 (by decide) (by decide) (XT.iconstV X0.here hx rfl (1 : Int32) (hb hby q2_2d13_32) (by decide) k)) ?_
      obtain ⟨fs, hr, hrun, hended, hW, hsame⟩ := X0.leave (v := (some (.int (1 : Int32)))) (fun h => by rw [hret] at h; cases h)
      refine Wp.done (retN X0 hx (t := .boolean) hret (by simp) (hb hby q2_2d13_33) hr) hrun hended ⟨_, _, rfl, ?_, ⟨_, rfl⟩, hW, hsame.mono (by decide) (by decide)⟩
      show Q_le2_2 Z a1 a2 k1 k2 v0 v1 w0 w1 h0 n0 _ s₁.heap _
      rw [e0]
      exact ⟨(by rw [f_leq2_2, if_pos c21_6, if_pos c21_10]), N0, (Keep.refl h0 [])⟩
    · refine Wp.back (U' := (s₁.setTop (mkF m 25 #[.val (.ref a1), .val (.ref a2), .val (.int (1 : Int32))] [(.int (0 : Int32))]))) (fun t k => XS.icmpNo X0.here hx rfl (hb hby q2_2d13_21) rfl (feq c21_10).1 (XT.iconstV X0.here hx rfl (0 : Int32) (hb hby q2_2d13_24) (by decide) k)) ?_
      obtain ⟨fs, hr, hrun, hended, hW, hsame⟩ := X0.leave (v := (some (.int (0 : Int32)))) (fun h => by rw [hret] at h; cases h)
      refine Wp.done (retN X0 hx (t := .boolean) hret (by simp) (hb hby q2_2d13_25) hr) hrun hended ⟨_, _, rfl, ?_, ⟨_, rfl⟩, hW, hsame.mono (by decide) (by decide)⟩
      show Q_le2_2 Z a1 a2 k1 k2 v0 v1 w0 w1 h0 n0 _ s₁.heap _
      rw [e0]
      exact ⟨(by rw [f_leq2_2, if_pos c21_6, if_neg c21_10]), N0, (Keep.refl h0 [])⟩
  · refine Wp.back (U' := (s₁.setTop (mkF m 25 #[.val (.ref a1), .val (.ref a2), .val (.int (0 : Int32))] [(.int (0 : Int32))]))) (fun t k => XS.icmpNo X0.here hx rfl (hb hby q2_2d13_21) rfl (feq c21_6).1 (XT.iconstV X0.here hx rfl (0 : Int32) (hb hby q2_2d13_24) (by decide) k)) ?_
    obtain ⟨fs, hr, hrun, hended, hW, hsame⟩ := X0.leave (v := (some (.int (0 : Int32)))) (fun h => by rw [hret] at h; cases h)
    refine Wp.done (retN X0 hx (t := .boolean) hret (by simp) (hb hby q2_2d13_25) hr) hrun hended ⟨_, _, rfl, ?_, ⟨_, rfl⟩, hW, hsame.mono (by decide) (by decide)⟩
    show Q_le2_2 Z a1 a2 k1 k2 v0 v1 w0 w1 h0 n0 _ s₁.heap _
    rw [e0]
    exact ⟨(by rw [f_leq2_2, if_neg c21_6]), N0, (Keep.refl h0 [])⟩
def f_eq2_2 (v0 : Int32) (v1 : Int32) (w0 : Int32) (w1 : Int32) : Int32 := (if (f_leq2_2 v0 v1 w0 w1) = (0 : Int32) then (0 : Int32) else (1 : Int32))
def Q_eq2_2 (Z : State) (ar : Addr) (br : Addr) (a1 : Addr) (a2 : Addr) (k1 : ClassId) (k2 : ClassId) (cs : Int32) (v0 : Int32) (v1 : Int32) (w0 : Int32) (w1 : Int32) (h0 : Heap) (n0 : Nat) (v : Option Value) (h : Heap) (L : List Loc) : Prop := v = some (.int (f_eq2_2 v0 v1 w0 w1)) ∧ Fr n0 L ∧ Keep h0 h []
theorem q2_2d12_0 : decode jdk_42_method_66_code 0 = .ok (.aload_n 0, 1) := by decide +kernel
theorem q2_2d12_1 : decode jdk_42_method_66_code 1 = .ok (.aload_n 1, 1) := by decide +kernel
theorem q2_2d12_2 : decode jdk_42_method_66_code 2 = .ok (.if_acmp .ne 5, 3) := by decide +kernel
theorem q2_2d12_7 : decode jdk_42_method_66_code 7 = .ok (.aload_n 1, 1) := by decide +kernel
theorem q2_2d12_8 : decode jdk_42_method_66_code 8 = .ok (.instanceof 10, 3) := by decide +kernel
theorem q2_2d12_11 : decode jdk_42_method_66_code 11 = .ok (.ifCond .eq 43, 3) := by decide +kernel
theorem q2_2d12_14 : decode jdk_42_method_66_code 14 = .ok (.aload_n 1, 1) := by decide +kernel
theorem q2_2d12_15 : decode jdk_42_method_66_code 15 = .ok (.checkcast 10, 3) := by decide +kernel
theorem q2_2d12_18 : decode jdk_42_method_66_code 18 = .ok (.astore_n 2, 1) := by decide +kernel
theorem q2_2d12_19 : decode jdk_42_method_66_code 19 = .ok (.getstatic 38, 3) := by decide +kernel
theorem q2_2d12_22 : decode jdk_42_method_66_code 22 = .ok (.ifCond .eq 14, 3) := by decide +kernel
theorem q2_2d12_25 : decode jdk_42_method_66_code 25 = .ok (.aload_n 0, 1) := by decide +kernel
theorem q2_2d12_26 : decode jdk_42_method_66_code 26 = .ok (.getfield 15, 3) := by decide +kernel
theorem q2_2d12_29 : decode jdk_42_method_66_code 29 = .ok (.aload_n 2, 1) := by decide +kernel
theorem q2_2d12_30 : decode jdk_42_method_66_code 30 = .ok (.getfield 15, 3) := by decide +kernel
theorem q2_2d12_33 : decode jdk_42_method_66_code 33 = .ok (.if_icmp .ne 21, 3) := by decide +kernel
theorem q2_2d12_36 : decode jdk_42_method_66_code 36 = .ok (.aload_n 0, 1) := by decide +kernel
theorem q2_2d12_37 : decode jdk_42_method_66_code 37 = .ok (.getfield 9, 3) := by decide +kernel
theorem q2_2d12_40 : decode jdk_42_method_66_code 40 = .ok (.aload_n 2, 1) := by decide +kernel
theorem q2_2d12_41 : decode jdk_42_method_66_code 41 = .ok (.getfield 9, 3) := by decide +kernel
theorem q2_2d12_44 : decode jdk_42_method_66_code 44 = .ok (.invokestatic 541, 3) := by decide +kernel
theorem q2_2d12_47 : decode jdk_42_method_66_code 47 = .ok (.ifCond .eq 7, 3) := by decide +kernel
theorem q2_2d12_50 : decode jdk_42_method_66_code 50 = .ok (.iconst 1, 1) := by decide +kernel
theorem q2_2d12_51 : decode jdk_42_method_66_code 51 = .ok (.goto 4, 3) := by decide +kernel
theorem q2_2d12_54 : decode jdk_42_method_66_code 54 = .ok (.iconst 0, 1) := by decide +kernel
theorem q2_2d12_55 : decode jdk_42_method_66_code 55 = .ok (.ireturn, 1) := by decide +kernel
theorem q2_2pd12_0 : parseMethodDescriptor "([B[B)Z" = some ⟨[(.array .byte), (.array .byte)], some .boolean⟩ := by decide +kernel
theorem q2_2pn12 : plainName "java/lang/String" = true := by first | (simp [plainName, overriddenIn]; done) | decide +kernel
theorem q2_2ef12 (m : MethodId) (x0 : Addr) (x1 : Addr) : entryFrame m #[(.ref x0), (.ref x1)] 3 = mkF m 0 #[.val (.ref x0), .val (.ref x1), .unset] [] := by first | (simp [entryFrame, mkF, argsToLocals, Value.category]; done) | rfl
set_option maxRecDepth 65536 in
set_option maxHeartbeats 40000000 in
theorem rm_eq2_2 (l : Launch) (Z : State) (a0 : Array Value) (hw : ∀ d ∈ tables_1, d.before a0 Z = true) (ws : List Jvm.Cond) (ar : Addr) (br : Addr) (a1 : Addr) (a2 : Addr) (k1 : ClassId) (k2 : ClassId) (cs : Int32) (v0 : Int32) (v1 : Int32) (w0 : Int32) (w1 : Int32) (h0 : Heap) (n0 : Nat) (Z0 : n0 ≤ h0.size) (H0 : Exa Z h0 ar "java/lang/String") (H1 : Fld Z h0 ar "java/lang/String" "value" "[B" (.ref a1)) (H2 : Fld Z h0 ar "java/lang/String" "coder" "B" (.int (0 : Int32))) (H3 : Arv Z h0 a1 k1 .byte (2 : Int32) [(.int v0), (.int v1)] (.int (0 : Int32))) (H4 : Exa Z h0 br "java/lang/String") (H5 : Fld Z h0 br "java/lang/String" "value" "[B" (.ref a2)) (H6 : Fld Z h0 br "java/lang/String" "coder" "B" (.int (0 : Int32))) (H7 : Arv Z h0 a2 k2 .byte (2 : Int32) [(.int w0), (.int w1)] (.int (0 : Int32))) (H8 : Sta Z h0 "java/lang/String" "COMPACT_STRINGS" "Z" (.int cs)) (ne_ar_br : ar ≠ br) (hcs : ¬ cs = (0 : Int32)) :
    MetFree l (⟨"java/lang/String", "equals", "(Ljava/lang/Object;)Z"⟩ : MethodName) (head1 (Jvm.Cond.code (⟨"java/lang/String", "equals", "(Ljava/lang/Object;)Z"⟩ : MethodName) jdk_42_method_66_code 3 (some .boolean) :: ws) ({ frames := 1, cells := 0, slots := 0, locals := 14 } : Room)) (fun a U => a = #[(.ref ar), (.ref br)] ∧ Z.Warmed39 U.vm ∧ U.heap = h0) (fun _ _ _ _ _ => True) (fun _ U o U' => ∃ v L, o = .returned v ∧ Q_eq2_2 Z ar br a1 a2 k1 k2 cs v0 v1 w0 w1 h0 n0 v U'.heap L ∧ FrameEnd U o U' L ({ frames := 1, cells := 0, slots := 0, locals := 14 } : Room).cells ({ frames := 1, cells := 0, slots := 0, locals := 14 } : Room).slots) := by
  refine MetFree.of_bodySF (plainFor_of_name q2_2pn12) hisR ?_
  intro p e s m args below meth c s₁ Bd hml0 hP hK
  obtain ⟨rfl, hZ, hh⟩ := hP
  have hx := Bd.exec
  have hby := Bd.bytes
  have hret := Bd.returns
  have hlk := Bd.notSynchronized
  have hml : c.maxLocals = 3 := hml0
  have hown : s.vm.findClass "java/lang/String" = some m.cls := findClass_of_methodNamed Bd.named
  have hnm := (name_of_methodNamed Bd.named Bd.method).1
  have X0 : Stand p l e ({ frames := 1, cells := 0, slots := 0, locals := 14 } : Room) s m #[(.ref ar), (.ref br)] below meth c s₁ [] 0 0 := Stand.of_body Bd
  have e0 : s₁.heap = h0 := by rw [← hh, Bd.state]; rfl
  have N0 := Fr.nil n0
  show Wp p e below (fun o s₂ => ∃ v L, o = .returned v ∧ Q_eq2_2 Z ar br a1 a2 k1 k2 cs v0 v1 w0 w1 h0 n0 v s₂.heap L ∧ FrameEnd s o s₂ L ({ frames := 1, cells := 0, slots := 0, locals := 14 } : Room).cells ({ frames := 1, cells := 0, slots := 0, locals := 14 } : Room).slots) _
  refine Wp.back (U' := (s₁.setTop (mkF m 0 #[.val (.ref ar), .val (.ref br), .unset] []))) (fun t k => castTop (q2_2ef12 m ar br) k) ?_
  refine Wp.back (U' := (s₁.setTop (mkF m 2 #[.val (.ref ar), .val (.ref br), .unset] [(.ref br), (.ref ar)]))) (fun t k => XS.aloadN X0.here hx rfl (hb hby q2_2d12_0) rfl rfl (XS.aloadN X0.here hx rfl (hb hby q2_2d12_1) rfl rfl k)) ?_
  refine Wp.back (U' := (s₁.setTop (mkF m 7 #[.val (.ref ar), .val (.ref br), .unset] []))) (fun t k => Jvm.RoadKit.acmp (g := (mkF m 2 #[.val (.ref ar), .val (.ref br), .unset] [(.ref br), (.ref ar)])) X0 hx rfl rfl rfl (pc0 := 2) (pc' := 7) (same := false) rfl (hb hby q2_2d12_2) rfl (decide_eq_false fun q => ne_ar_br (Value.ref.inj q)) (by decide) (by decide) k) ?_
  refine Wp.back (U' := (s₁.setTop (mkF m 8 #[.val (.ref ar), .val (.ref br), .unset] [(.ref br)]))) (fun t k => XS.aloadN X0.here hx rfl (hb hby q2_2d12_7) rfl rfl k) ?_
  obtain ⟨T1, X1, e1, st1⟩ := instY X0 hx hZ hown (hw _ (List.mem_of_getElem? (i := 85) rfl)) e0 (Ins.self H4) (g := (mkF m 8 #[.val (.ref ar), .val (.ref br), .unset] [(.ref br)])) rfl rfl (hb hby q2_2d12_8)
  refine Wp.back (U' := (T1.setTop (mkF m 11 #[.val (.ref ar), .val (.ref br), .unset] [(.int (1 : Int32))]))) st1 ?_
  refine Wp.back (U' := (T1.setTop (mkF m 15 #[.val (.ref ar), .val (.ref br), .unset] [(.ref br)]))) (fun t k => XS.ifNo X1.here hx rfl (hb hby q2_2d12_11) rfl ((if0 _ _).trans (feq (by decide)).1) (XS.aloadN X1.here hx rfl (hb hby q2_2d12_14) rfl rfl k)) ?_
  obtain ⟨T2, X2, e2, st2⟩ := castY X1 hx hZ hown (hw _ (List.mem_of_getElem? (i := 85) rfl)) e1 (Ins.self H4) (g := (mkF m 15 #[.val (.ref ar), .val (.ref br), .unset] [(.ref br)])) rfl rfl (hb hby q2_2d12_15)
  refine Wp.back (U' := (T2.setTop (mkF m 18 #[.val (.ref ar), .val (.ref br), .unset] [(.ref br)]))) st2 ?_
  refine Wp.back (U' := (T2.setTop (mkF m 19 #[.val (.ref ar), .val (.ref br), .val (.ref br)] []))) (fun t k => XS.astoreN X2.here hx rfl (hb hby q2_2d12_18) rfl rfl (l' := #[.val (.ref ar), .val (.ref br), .val (.ref br)]) rfl k) ?_
  obtain ⟨T3, X3, e3, st3⟩ := getS2 X2 hx hZ hown (host := "") (Or.inl (hw _ (List.mem_of_getElem? (i := 62) rfl))) Via.refl e2 H8 (g := (mkF m 19 #[.val (.ref ar), .val (.ref br), .val (.ref br)] [])) rfl (hb hby q2_2d12_19)
  refine Wp.back (U' := (T3.setTop (mkF m 22 #[.val (.ref ar), .val (.ref br), .val (.ref br)] [(.int cs)]))) st3 ?_
  refine Wp.back (U' := (T3.setTop (mkF m 26 #[.val (.ref ar), .val (.ref br), .val (.ref br)] [(.ref ar)]))) (fun t k => XS.ifNo X3.here hx rfl (hb hby q2_2d12_22) rfl ((if0 _ _).trans (feq hcs).1) (XS.aloadN X3.here hx rfl (hb hby q2_2d12_25) rfl rfl k)) ?_
  obtain ⟨T4, X4, e4, st4⟩ := getF X3 hx hZ hown (host := "") (Or.inl (hw _ (List.mem_of_getElem? (i := 26) rfl))) Via.refl e3 H2 (g := (mkF m 26 #[.val (.ref ar), .val (.ref br), .val (.ref br)] [(.ref ar)])) rfl rfl (hb hby q2_2d12_26)
  refine Wp.back (U' := (T4.setTop (mkF m 29 #[.val (.ref ar), .val (.ref br), .val (.ref br)] [(.int (0 : Int32))]))) st4 ?_
  refine Wp.back (U' := (T4.setTop (mkF m 30 #[.val (.ref ar), .val (.ref br), .val (.ref br)] [(.ref br), (.int (0 : Int32))]))) (fun t k => XS.aloadN X4.here hx rfl (hb hby q2_2d12_29) rfl rfl k) ?_
  obtain ⟨T5, X5, e5, st5⟩ := getF X4 hx hZ hown (host := "") (Or.inl (hw _ (List.mem_of_getElem? (i := 26) rfl))) Via.refl e4 H6 (g := (mkF m 30 #[.val (.ref ar), .val (.ref br), .val (.ref br)] [(.ref br), (.int (0 : Int32))])) rfl rfl (hb hby q2_2d12_30)
  refine Wp.back (U' := (T5.setTop (mkF m 33 #[.val (.ref ar), .val (.ref br), .val (.ref br)] [(.int (0 : Int32)), (.int (0 : Int32))]))) st5 ?_
  refine Wp.back (U' := (T5.setTop (mkF m 37 #[.val (.ref ar), .val (.ref br), .val (.ref br)] [(.ref ar)]))) (fun t k => XS.icmpNo X5.here hx rfl (hb hby q2_2d12_33) rfl (teq (by decide)).2 (XS.aloadN X5.here hx rfl (hb hby q2_2d12_36) rfl rfl k)) ?_
  obtain ⟨T6, X6, e6, st6⟩ := getF X5 hx hZ hown (host := "") (Or.inl (hw _ (List.mem_of_getElem? (i := 25) rfl))) Via.refl e5 H1 (g := (mkF m 37 #[.val (.ref ar), .val (.ref br), .val (.ref br)] [(.ref ar)])) rfl rfl (hb hby q2_2d12_37)
  refine Wp.back (U' := (T6.setTop (mkF m 40 #[.val (.ref ar), .val (.ref br), .val (.ref br)] [(.ref a1)]))) st6 ?_
  refine Wp.back (U' := (T6.setTop (mkF m 41 #[.val (.ref ar), .val (.ref br), .val (.ref br)] [(.ref br), (.ref a1)]))) (fun t k => XS.aloadN X6.here hx rfl (hb hby q2_2d12_40) rfl rfl k) ?_
  obtain ⟨T7, X7, e7, st7⟩ := getF X6 hx hZ hown (host := "") (Or.inl (hw _ (List.mem_of_getElem? (i := 25) rfl))) Via.refl e6 H5 (g := (mkF m 41 #[.val (.ref ar), .val (.ref br), .val (.ref br)] [(.ref br), (.ref a1)])) rfl rfl (hb hby q2_2d12_41)
  refine Wp.back (U' := (T7.setTop (mkF m 44 #[.val (.ref ar), .val (.ref br), .val (.ref br)] [(.ref a2), (.ref a1)]))) st7 ?_
  obtain ⟨_, _, ⟨T8, L8, k8, n8⟩, -, X8, ⟨Lc8, hQ8, l8, y8, z8⟩, st8⟩ := Jvm.LawKit.callS X7 hx (y := (⟨"java/lang/StringLatin1", "equals", "([B[B)Z"⟩ : MethodName)) hown (mvT hZ (hw _ (List.mem_of_getElem? (i := 86) rfl))) (mvT hZ (hw _ (List.mem_of_getElem? (i := 87) rfl))) (mvT hZ (hw _ (List.mem_of_getElem? (i := 88) rfl))) (mvT hZ (hw _ (List.mem_of_getElem? (i := 89) rfl))) (by decide) (backOf (W := 0) (rm_le2_2 l Z a0 hw [] a1 a2 k1 k2 v0 v1 w0 w1 h0 n0 Z0 H3 H7) hZ (hw _ (List.mem_of_getElem? (i := 89) rfl)) (hw _ (List.mem_of_getElem? (i := 88) rfl)) (by decide) (by decide)) (g := (mkF m 44 #[.val (.ref ar), .val (.ref br), .val (.ref br)] [(.ref a2), (.ref a1)])) rfl (by rw [hml]; rfl) (argsL := [(.ref a1), (.ref a2)]) (rest := []) (lenOf q2_2pd12_0 rfl) rfl (by show 2 * 0 + _ ≤ _; exact Nat.le_of_eq rfl) (hb hby q2_2d12_44) (fun _ _ => ⟨rfl, e7, (by decide : 0 + 0 ≤ _), (by decide : 0 + 0 ≤ _)⟩)
  dsimp only [Pt.U, Pt.locs, Pt.cells, Pt.slots] at X8 l8 y8 z8 st8 hQ8
  subst l8 y8 z8
  obtain ⟨rfl, N8q, K8⟩ := hQ8
  have f9_0 := Nat.le_trans Z0 K8.1
  have f9_1 := H0.keep K8
  have f9_2 := H1.keep K8 nin0
  have f9_3 := H2.keep K8 nin0
  have f9_4 := H3.keep K8 nin0
  have f9_5 := H4.keep K8
  have f9_6 := H5.keep K8 nin0
  have f9_7 := H6.keep K8 nin0
  have f9_8 := H7.keep K8 nin0
  have f9_9 := Sta_keep0 H8 K8
  have f9_10 := (Keep.refl h0 []).trans K8 all0
  have N8 := Fr.app N0 N8q
  refine Wp.back (U' := (T8.setTop (mkF m 47 #[.val (.ref ar), .val (.ref br), .val (.ref br)] [(.int (f_leq2_2 v0 v1 w0 w1))]))) st8 ?_
  by_cases c47_10 : (f_leq2_2 v0 v1 w0 w1) = (0 : Int32)
  · refine Wp.back (U' := (T8.setTop (mkF m 55 #[.val (.ref ar), .val (.ref br), .val (.ref br)] [(.int (0 : Int32))]))) (fun t k => XS.ifYes X8.here hx rfl (pc0 := 47) (pc' := 54) rfl (hb hby q2_2d12_47) rfl ((if0 _ _).trans (teq c47_10).1) (by decide) (by decide) (XT.iconstV X8.here hx rfl (0 : Int32) (hb hby q2_2d12_54) (by decide) k)) ?_
    obtain ⟨fs, hr, hrun, hended, hW, hsame⟩ := X8.leave (v := (some (.int (0 : Int32)))) (fun h => by rw [hret] at h; cases h)
    refine Wp.done (retN X8 hx (t := .boolean) hret (by simp) (hb hby q2_2d12_55) hr) hrun hended ⟨_, _, rfl, ?_, ⟨_, rfl⟩, hW, hsame.mono (by decide) (by decide)⟩
    show Q_eq2_2 Z ar br a1 a2 k1 k2 cs v0 v1 w0 w1 h0 n0 _ T8.heap _
    exact ⟨(by rw [f_eq2_2, if_pos c47_10]), N8, f9_10⟩
  · refine Wp.back (U' := (T8.setTop (mkF m 55 #[.val (.ref ar), .val (.ref br), .val (.ref br)] [(.int (1 : Int32))]))) (fun t k => XS.ifNo X8.here hx rfl (hb hby q2_2d12_47) rfl ((if0 _ _).trans (feq c47_10).1) (XT.iconstV X8.here hx rfl (1 : Int32) (hb hby q2_2d12_50) (by decide) (XS.goto X8.here hx rfl (pc0 := 51) (pc' := 55) rfl (hb hby q2_2d12_51) (by decide) (by decide) k))) ?_
    obtain ⟨fs, hr, hrun, hended, hW, hsame⟩ := X8.leave (v := (some (.int (1 : Int32)))) (fun h => by rw [hret] at h; cases h)
    refine Wp.done (retN X8 hx (t := .boolean) hret (by simp) (hb hby q2_2d12_55) hr) hrun hended ⟨_, _, rfl, ?_, ⟨_, rfl⟩, hW, hsame.mono (by decide) (by decide)⟩
    show Q_eq2_2 Z ar br a1 a2 k1 k2 cs v0 v1 w0 w1 h0 n0 _ T8.heap _
    exact ⟨(by rw [f_eq2_2, if_neg c47_10]), N8, f9_10⟩
def Q_eq0_n (Z : State) (ar : Addr)  (h0 : Heap) (n0 : Nat) (v : Option Value) (h : Heap) (L : List Loc) : Prop := v = some (.int (0 : Int32)) ∧ Fr n0 L ∧ Keep h0 h []
theorem q0_nd12_0 : decode jdk_42_method_66_code 0 = .ok (.aload_n 0, 1) := by decide +kernel
theorem q0_nd12_1 : decode jdk_42_method_66_code 1 = .ok (.aload_n 1, 1) := by decide +kernel
theorem q0_nd12_2 : decode jdk_42_method_66_code 2 = .ok (.if_acmp .ne 5, 3) := by decide +kernel
theorem q0_nd12_7 : decode jdk_42_method_66_code 7 = .ok (.aload_n 1, 1) := by decide +kernel
theorem q0_nd12_8 : decode jdk_42_method_66_code 8 = .ok (.instanceof 10, 3) := by decide +kernel
theorem q0_nd12_11 : decode jdk_42_method_66_code 11 = .ok (.ifCond .eq 43, 3) := by decide +kernel
theorem q0_nd12_54 : decode jdk_42_method_66_code 54 = .ok (.iconst 0, 1) := by decide +kernel
theorem q0_nd12_55 : decode jdk_42_method_66_code 55 = .ok (.ireturn, 1) := by decide +kernel
theorem q0_npn12 : plainName "java/lang/String" = true := by first | (simp [plainName, overriddenIn]; done) | decide +kernel
theorem q0_nef12 (m : MethodId) (x0 : Addr) : entryFrame m #[(.ref x0), .null] 3 = mkF m 0 #[.val (.ref x0), .val .null, .unset] [] := by first | (simp [entryFrame, mkF, argsToLocals, Value.category]; done) | rfl
set_option maxRecDepth 65536 in
set_option maxHeartbeats 40000000 in
theorem rm_eq0_n (l : Launch) (Z : State) (a0 : Array Value) (hw : ∀ d ∈ tables_1, d.before a0 Z = true) (ws : List Jvm.Cond) (ar : Addr)  (h0 : Heap) (n0 : Nat) (Z0 : n0 ≤ h0.size)  :
    MetFree l (⟨"java/lang/String", "equals", "(Ljava/lang/Object;)Z"⟩ : MethodName) (head1 (Jvm.Cond.code (⟨"java/lang/String", "equals", "(Ljava/lang/Object;)Z"⟩ : MethodName) jdk_42_method_66_code 3 (some .boolean) :: ws) ({ frames := 0, cells := 0, slots := 0, locals := 0 } : Room)) (fun a U => a = #[(.ref ar), .null] ∧ Z.Warmed39 U.vm ∧ U.heap = h0) (fun _ _ _ _ _ => True) (fun _ U o U' => ∃ v L, o = .returned v ∧ Q_eq0_n Z ar h0 n0 v U'.heap L ∧ FrameEnd U o U' L ({ frames := 0, cells := 0, slots := 0, locals := 0 } : Room).cells ({ frames := 0, cells := 0, slots := 0, locals := 0 } : Room).slots) := by
  refine MetFree.of_bodySF (plainFor_of_name q0_npn12) hisR ?_
  intro p e s m args below meth c s₁ Bd hml0 hP hK
  obtain ⟨rfl, hZ, hh⟩ := hP
  have hx := Bd.exec
  have hby := Bd.bytes
  have hret := Bd.returns
  have hlk := Bd.notSynchronized
  have hml : c.maxLocals = 3 := hml0
  have hown : s.vm.findClass "java/lang/String" = some m.cls := findClass_of_methodNamed Bd.named
  have hnm := (name_of_methodNamed Bd.named Bd.method).1
  have X0 : Stand p l e ({ frames := 0, cells := 0, slots := 0, locals := 0 } : Room) s m #[(.ref ar), .null] below meth c s₁ [] 0 0 := Stand.of_body Bd
  have e0 : s₁.heap = h0 := by rw [← hh, Bd.state]; rfl
  have N0 := Fr.nil n0
  show Wp p e below (fun o s₂ => ∃ v L, o = .returned v ∧ Q_eq0_n Z ar h0 n0 v s₂.heap L ∧ FrameEnd s o s₂ L ({ frames := 0, cells := 0, slots := 0, locals := 0 } : Room).cells ({ frames := 0, cells := 0, slots := 0, locals := 0 } : Room).slots) _
  refine Wp.back (U' := (s₁.setTop (mkF m 0 #[.val (.ref ar), .val .null, .unset] []))) (fun t k => castTop (q0_nef12 m ar) k) ?_
  refine Wp.back (U' := (s₁.setTop (mkF m 2 #[.val (.ref ar), .val .null, .unset] [.null, (.ref ar)]))) (fun t k => XS.aloadN X0.here hx rfl (hb hby q0_nd12_0) rfl rfl (XS.aloadN X0.here hx rfl (hb hby q0_nd12_1) rfl rfl k)) ?_
  refine Wp.back (U' := (s₁.setTop (mkF m 7 #[.val (.ref ar), .val .null, .unset] []))) (fun t k => Jvm.RoadKit.acmp (g := (mkF m 2 #[.val (.ref ar), .val .null, .unset] [.null, (.ref ar)])) X0 hx rfl rfl rfl (pc0 := 2) (pc' := 7) (same := false) rfl (hb hby q0_nd12_2) rfl (decide_eq_false nofun) (by decide) (by decide) k) ?_
  refine Wp.back (U' := (s₁.setTop (mkF m 8 #[.val (.ref ar), .val .null, .unset] [.null]))) (fun t k => XS.aloadN X0.here hx rfl (hb hby q0_nd12_7) rfl rfl k) ?_
  refine Wp.back (U' := (s₁.setTop (mkF m 11 #[.val (.ref ar), .val .null, .unset] [(.int (0 : Int32))]))) (fun t k => X0.instanceofNull hx (g := (mkF m 8 #[.val (.ref ar), .val .null, .unset] [.null])) rfl rfl (hb hby q0_nd12_8) t k) ?_
  refine Wp.back (U' := (s₁.setTop (mkF m 55 #[.val (.ref ar), .val .null, .unset] [(.int (0 : Int32))]))) (fun t k => XS.ifYes X0.here hx rfl (pc0 := 11) (pc' := 54) rfl (hb hby q0_nd12_11) rfl ((if0 _ _).trans (teq (by decide)).1) (by decide) (by decide) (XT.iconstV X0.here hx rfl (0 : Int32) (hb hby q0_nd12_54) (by decide) k)) ?_
  obtain ⟨fs, hr, hrun, hended, hW, hsame⟩ := X0.leave (v := (some (.int (0 : Int32)))) (fun h => by rw [hret] at h; cases h)
  refine Wp.done (retN X0 hx (t := .boolean) hret (by simp) (hb hby q0_nd12_55) hr) hrun hended ⟨_, _, rfl, ?_, ⟨_, rfl⟩, hW, hsame.mono (by decide) (by decide)⟩
  show Q_eq0_n Z ar h0 n0 _ s₁.heap _
  rw [e0]
  exact ⟨rfl, N0, (Keep.refl h0 [])⟩
def Q_le_ne (Z : State) (a1 : Addr) (a2 : Addr) (k1 : ClassId) (k2 : ClassId) (z1 : Int32) (z2 : Int32) (vs1 : List Value) (vs2 : List Value) (dv1 : Value) (dv2 : Value) (h0 : Heap) (n0 : Nat) (v : Option Value) (h : Heap) (L : List Loc) : Prop := v = some (.int (0 : Int32)) ∧ Fr n0 L ∧ Keep h0 h []
theorem qned13_0 : decode jdk_43_method_13_code 0 = .ok (.aload_n 0, 1) := by decide +kernel
theorem qned13_1 : decode jdk_43_method_13_code 1 = .ok (.arraylength, 1) := by decide +kernel
theorem qned13_2 : decode jdk_43_method_13_code 2 = .ok (.aload_n 1, 1) := by decide +kernel
theorem qned13_3 : decode jdk_43_method_13_code 3 = .ok (.arraylength, 1) := by decide +kernel
theorem qned13_4 : decode jdk_43_method_13_code 4 = .ok (.if_icmp .ne 30, 3) := by decide +kernel
theorem qned13_34 : decode jdk_43_method_13_code 34 = .ok (.iconst 0, 1) := by decide +kernel
theorem qned13_35 : decode jdk_43_method_13_code 35 = .ok (.ireturn, 1) := by decide +kernel
theorem qnepn13 : plainName "java/lang/StringLatin1" = true := by first | (simp [plainName, overriddenIn]; done) | decide +kernel
theorem qneef13 (m : MethodId) (x0 : Addr) (x1 : Addr) : entryFrame m #[(.ref x0), (.ref x1)] 3 = mkF m 0 #[.val (.ref x0), .val (.ref x1), .unset] [] := by first | (simp [entryFrame, mkF, argsToLocals, Value.category]; done) | rfl
set_option maxRecDepth 65536 in
set_option maxHeartbeats 40000000 in
theorem rm_le_ne (l : Launch) (Z : State) (a0 : Array Value) (hw : ∀ d ∈ tables_1, d.before a0 Z = true) (ws : List Jvm.Cond) (a1 : Addr) (a2 : Addr) (k1 : ClassId) (k2 : ClassId) (z1 : Int32) (z2 : Int32) (vs1 : List Value) (vs2 : List Value) (dv1 : Value) (dv2 : Value) (h0 : Heap) (n0 : Nat) (Z0 : n0 ≤ h0.size) (H0 : Arv Z h0 a1 k1 .byte z1 vs1 dv1) (H1 : Arv Z h0 a2 k2 .byte z2 vs2 dv2) (hz : ¬ z1 = z2) :
    MetFree l (⟨"java/lang/StringLatin1", "equals", "([B[B)Z"⟩ : MethodName) (head1 (Jvm.Cond.code (⟨"java/lang/StringLatin1", "equals", "([B[B)Z"⟩ : MethodName) jdk_43_method_13_code 3 (some .boolean) :: ws) ({ frames := 0, cells := 0, slots := 0, locals := 0 } : Room)) (fun a U => a = #[(.ref a1), (.ref a2)] ∧ Z.Warmed39 U.vm ∧ U.heap = h0) (fun _ _ _ _ _ => True) (fun _ U o U' => ∃ v L, o = .returned v ∧ Q_le_ne Z a1 a2 k1 k2 z1 z2 vs1 vs2 dv1 dv2 h0 n0 v U'.heap L ∧ FrameEnd U o U' L ({ frames := 0, cells := 0, slots := 0, locals := 0 } : Room).cells ({ frames := 0, cells := 0, slots := 0, locals := 0 } : Room).slots) := by
  refine MetFree.of_bodySF (plainFor_of_name qnepn13) hisR ?_
  intro p e s m args below meth c s₁ Bd hml0 hP hK
  obtain ⟨rfl, hZ, hh⟩ := hP
  have hx := Bd.exec
  have hby := Bd.bytes
  have hret := Bd.returns
  have hlk := Bd.notSynchronized
  have hml : c.maxLocals = 3 := hml0
  have hown : s.vm.findClass "java/lang/StringLatin1" = some m.cls := findClass_of_methodNamed Bd.named
  have hnm := (name_of_methodNamed Bd.named Bd.method).1
  have X0 : Stand p l e ({ frames := 0, cells := 0, slots := 0, locals := 0 } : Room) s m #[(.ref a1), (.ref a2)] below meth c s₁ [] 0 0 := Stand.of_body Bd
  have e0 : s₁.heap = h0 := by rw [← hh, Bd.state]; rfl
  have N0 := Fr.nil n0
  show Wp p e below (fun o s₂ => ∃ v L, o = .returned v ∧ Q_le_ne Z a1 a2 k1 k2 z1 z2 vs1 vs2 dv1 dv2 h0 n0 v s₂.heap L ∧ FrameEnd s o s₂ L ({ frames := 0, cells := 0, slots := 0, locals := 0 } : Room).cells ({ frames := 0, cells := 0, slots := 0, locals := 0 } : Room).slots) _
  refine Wp.back (U' := (s₁.setTop (mkF m 0 #[.val (.ref a1), .val (.ref a2), .unset] []))) (fun t k => castTop (qneef13 m a1 a2) k) ?_
  refine Wp.back (U' := (s₁.setTop (mkF m 1 #[.val (.ref a1), .val (.ref a2), .unset] [(.ref a1)]))) (fun t k => XS.aloadN X0.here hx rfl (hb hby qned13_0) rfl rfl k) ?_
  have vq1 := H0
  obtain ⟨cl1, Ar1, -, qs1, qn1, -, -⟩ := vq1
  refine Wp.back (U' := (s₁.setTop (mkF m 2 #[.val (.ref a1), .val (.ref a2), .unset] [(.int z1)]))) (fun t k => X0.arraylength hx (by rw [e0]; exact Ar1.1) (State.isArrayOf_alike hZ.alike Ar1.2.1) (g := (mkF m 1 #[.val (.ref a1), .val (.ref a2), .unset] [(.ref a1)])) rfl rfl (hb hby qned13_1) t (by rw [len_of qs1 qn1]; exact k)) ?_
  refine Wp.back (U' := (s₁.setTop (mkF m 3 #[.val (.ref a1), .val (.ref a2), .unset] [(.ref a2), (.int z1)]))) (fun t k => XS.aloadN X0.here hx rfl (hb hby qned13_2) rfl rfl k) ?_
  have vq2 := H1
  obtain ⟨cl2, Ar2, -, qs2, qn2, -, -⟩ := vq2
  refine Wp.back (U' := (s₁.setTop (mkF m 4 #[.val (.ref a1), .val (.ref a2), .unset] [(.int z2), (.int z1)]))) (fun t k => X0.arraylength hx (by rw [e0]; exact Ar2.1) (State.isArrayOf_alike hZ.alike Ar2.2.1) (g := (mkF m 3 #[.val (.ref a1), .val (.ref a2), .unset] [(.ref a2), (.int z1)])) rfl rfl (hb hby qned13_3) t (by rw [len_of qs2 qn2]; exact k)) ?_
  refine Wp.back (U' := (s₁.setTop (mkF m 35 #[.val (.ref a1), .val (.ref a2), .unset] [(.int (0 : Int32))]))) (fun t k => XS.icmpYes X0.here hx rfl (pc0 := 4) (pc' := 34) rfl (hb hby qned13_4) rfl (feq hz).2 (by decide) (by decide) (XT.iconstV X0.here hx rfl (0 : Int32) (hb hby qned13_34) (by decide) k)) ?_
  obtain ⟨fs, hr, hrun, hended, hW, hsame⟩ := X0.leave (v := (some (.int (0 : Int32)))) (fun h => by rw [hret] at h; cases h)
  refine Wp.done (retN X0 hx (t := .boolean) hret (by simp) (hb hby qned13_35) hr) hrun hended ⟨_, _, rfl, ?_, ⟨_, rfl⟩, hW, hsame.mono (by decide) (by decide)⟩
  show Q_le_ne Z a1 a2 k1 k2 z1 z2 vs1 vs2 dv1 dv2 h0 n0 _ s₁.heap _
  rw [e0]
  exact ⟨rfl, N0, (Keep.refl h0 [])⟩
def Q_eq_ne (Z : State) (ar : Addr) (br : Addr) (a1 : Addr) (a2 : Addr) (cs : Int32) (k1 : ClassId) (k2 : ClassId) (z1 : Int32) (z2 : Int32) (vs1 : List Value) (vs2 : List Value) (dv1 : Value) (dv2 : Value) (h0 : Heap) (n0 : Nat) (v : Option Value) (h : Heap) (L : List Loc) : Prop := v = some (.int (0 : Int32)) ∧ Fr n0 L ∧ Keep h0 h []
theorem qned12_0 : decode jdk_42_method_66_code 0 = .ok (.aload_n 0, 1) := by decide +kernel
theorem qned12_1 : decode jdk_42_method_66_code 1 = .ok (.aload_n 1, 1) := by decide +kernel
theorem qned12_2 : decode jdk_42_method_66_code 2 = .ok (.if_acmp .ne 5, 3) := by decide +kernel
theorem qned12_7 : decode jdk_42_method_66_code 7 = .ok (.aload_n 1, 1) := by decide +kernel
theorem qned12_8 : decode jdk_42_method_66_code 8 = .ok (.instanceof 10, 3) := by decide +kernel
theorem qned12_11 : decode jdk_42_method_66_code 11 = .ok (.ifCond .eq 43, 3) := by decide +kernel
theorem qned12_14 : decode jdk_42_method_66_code 14 = .ok (.aload_n 1, 1) := by decide +kernel
theorem qned12_15 : decode jdk_42_method_66_code 15 = .ok (.checkcast 10, 3) := by decide +kernel
theorem qned12_18 : decode jdk_42_method_66_code 18 = .ok (.astore_n 2, 1) := by decide +kernel
theorem qned12_19 : decode jdk_42_method_66_code 19 = .ok (.getstatic 38, 3) := by decide +kernel
theorem qned12_22 : decode jdk_42_method_66_code 22 = .ok (.ifCond .eq 14, 3) := by decide +kernel
theorem qned12_25 : decode jdk_42_method_66_code 25 = .ok (.aload_n 0, 1) := by decide +kernel
theorem qned12_26 : decode jdk_42_method_66_code 26 = .ok (.getfield 15, 3) := by decide +kernel
theorem qned12_29 : decode jdk_42_method_66_code 29 = .ok (.aload_n 2, 1) := by decide +kernel
theorem qned12_30 : decode jdk_42_method_66_code 30 = .ok (.getfield 15, 3) := by decide +kernel
theorem qned12_33 : decode jdk_42_method_66_code 33 = .ok (.if_icmp .ne 21, 3) := by decide +kernel
theorem qned12_36 : decode jdk_42_method_66_code 36 = .ok (.aload_n 0, 1) := by decide +kernel
theorem qned12_37 : decode jdk_42_method_66_code 37 = .ok (.getfield 9, 3) := by decide +kernel
theorem qned12_40 : decode jdk_42_method_66_code 40 = .ok (.aload_n 2, 1) := by decide +kernel
theorem qned12_41 : decode jdk_42_method_66_code 41 = .ok (.getfield 9, 3) := by decide +kernel
theorem qned12_44 : decode jdk_42_method_66_code 44 = .ok (.invokestatic 541, 3) := by decide +kernel
theorem qned12_47 : decode jdk_42_method_66_code 47 = .ok (.ifCond .eq 7, 3) := by decide +kernel
theorem qned12_54 : decode jdk_42_method_66_code 54 = .ok (.iconst 0, 1) := by decide +kernel
theorem qned12_55 : decode jdk_42_method_66_code 55 = .ok (.ireturn, 1) := by decide +kernel
theorem qnepd12_0 : parseMethodDescriptor "([B[B)Z" = some ⟨[(.array .byte), (.array .byte)], some .boolean⟩ := by decide +kernel
theorem qnepn12 : plainName "java/lang/String" = true := by first | (simp [plainName, overriddenIn]; done) | decide +kernel
theorem qneef12 (m : MethodId) (x0 : Addr) (x1 : Addr) : entryFrame m #[(.ref x0), (.ref x1)] 3 = mkF m 0 #[.val (.ref x0), .val (.ref x1), .unset] [] := by first | (simp [entryFrame, mkF, argsToLocals, Value.category]; done) | rfl
set_option maxRecDepth 65536 in
set_option maxHeartbeats 40000000 in
theorem rm_eq_ne (l : Launch) (Z : State) (a0 : Array Value) (hw : ∀ d ∈ tables_1, d.before a0 Z = true) (ws : List Jvm.Cond) (ar : Addr) (br : Addr) (a1 : Addr) (a2 : Addr) (cs : Int32) (k1 : ClassId) (k2 : ClassId) (z1 : Int32) (z2 : Int32) (vs1 : List Value) (vs2 : List Value) (dv1 : Value) (dv2 : Value) (h0 : Heap) (n0 : Nat) (Z0 : n0 ≤ h0.size) (H0 : Exa Z h0 ar "java/lang/String") (H1 : Fld Z h0 ar "java/lang/String" "value" "[B" (.ref a1)) (H2 : Fld Z h0 ar "java/lang/String" "coder" "B" (.int (0 : Int32))) (H3 : Arv Z h0 a1 k1 .byte z1 vs1 dv1) (H4 : Exa Z h0 br "java/lang/String") (H5 : Fld Z h0 br "java/lang/String" "value" "[B" (.ref a2)) (H6 : Fld Z h0 br "java/lang/String" "coder" "B" (.int (0 : Int32))) (H7 : Arv Z h0 a2 k2 .byte z2 vs2 dv2) (H8 : Sta Z h0 "java/lang/String" "COMPACT_STRINGS" "Z" (.int cs)) (ne_ar_br : ar ≠ br) (hz : ¬ z1 = z2) (hcs : ¬ cs = (0 : Int32)) :
    MetFree l (⟨"java/lang/String", "equals", "(Ljava/lang/Object;)Z"⟩ : MethodName) (head1 (Jvm.Cond.code (⟨"java/lang/String", "equals", "(Ljava/lang/Object;)Z"⟩ : MethodName) jdk_42_method_66_code 3 (some .boolean) :: ws) ({ frames := 1, cells := 0, slots := 0, locals := 14 } : Room)) (fun a U => a = #[(.ref ar), (.ref br)] ∧ Z.Warmed39 U.vm ∧ U.heap = h0) (fun _ _ _ _ _ => True) (fun _ U o U' => ∃ v L, o = .returned v ∧ Q_eq_ne Z ar br a1 a2 cs k1 k2 z1 z2 vs1 vs2 dv1 dv2 h0 n0 v U'.heap L ∧ FrameEnd U o U' L ({ frames := 1, cells := 0, slots := 0, locals := 14 } : Room).cells ({ frames := 1, cells := 0, slots := 0, locals := 14 } : Room).slots) := by
  refine MetFree.of_bodySF (plainFor_of_name qnepn12) hisR ?_
  intro p e s m args below meth c s₁ Bd hml0 hP hK
  obtain ⟨rfl, hZ, hh⟩ := hP
  have hx := Bd.exec
  have hby := Bd.bytes
  have hret := Bd.returns
  have hlk := Bd.notSynchronized
  have hml : c.maxLocals = 3 := hml0
  have hown : s.vm.findClass "java/lang/String" = some m.cls := findClass_of_methodNamed Bd.named
  have hnm := (name_of_methodNamed Bd.named Bd.method).1
  have X0 : Stand p l e ({ frames := 1, cells := 0, slots := 0, locals := 14 } : Room) s m #[(.ref ar), (.ref br)] below meth c s₁ [] 0 0 := Stand.of_body Bd
  have e0 : s₁.heap = h0 := by rw [← hh, Bd.state]; rfl
  have N0 := Fr.nil n0
  show Wp p e below (fun o s₂ => ∃ v L, o = .returned v ∧ Q_eq_ne Z ar br a1 a2 cs k1 k2 z1 z2 vs1 vs2 dv1 dv2 h0 n0 v s₂.heap L ∧ FrameEnd s o s₂ L ({ frames := 1, cells := 0, slots := 0, locals := 14 } : Room).cells ({ frames := 1, cells := 0, slots := 0, locals := 14 } : Room).slots) _
  refine Wp.back (U' := (s₁.setTop (mkF m 0 #[.val (.ref ar), .val (.ref br), .unset] []))) (fun t k => castTop (qneef12 m ar br) k) ?_
  refine Wp.back (U' := (s₁.setTop (mkF m 2 #[.val (.ref ar), .val (.ref br), .unset] [(.ref br), (.ref ar)]))) (fun t k => XS.aloadN X0.here hx rfl (hb hby qned12_0) rfl rfl (XS.aloadN X0.here hx rfl (hb hby qned12_1) rfl rfl k)) ?_
  refine Wp.back (U' := (s₁.setTop (mkF m 7 #[.val (.ref ar), .val (.ref br), .unset] []))) (fun t k => Jvm.RoadKit.acmp (g := (mkF m 2 #[.val (.ref ar), .val (.ref br), .unset] [(.ref br), (.ref ar)])) X0 hx rfl rfl rfl (pc0 := 2) (pc' := 7) (same := false) rfl (hb hby qned12_2) rfl (decide_eq_false fun q => ne_ar_br (Value.ref.inj q)) (by decide) (by decide) k) ?_
  refine Wp.back (U' := (s₁.setTop (mkF m 8 #[.val (.ref ar), .val (.ref br), .unset] [(.ref br)]))) (fun t k => XS.aloadN X0.here hx rfl (hb hby qned12_7) rfl rfl k) ?_
  obtain ⟨T1, X1, e1, st1⟩ := instY X0 hx hZ hown (hw _ (List.mem_of_getElem? (i := 85) rfl)) e0 (Ins.self H4) (g := (mkF m 8 #[.val (.ref ar), .val (.ref br), .unset] [(.ref br)])) rfl rfl (hb hby qned12_8)
  refine Wp.back (U' := (T1.setTop (mkF m 11 #[.val (.ref ar), .val (.ref br), .unset] [(.int (1 : Int32))]))) st1 ?_
  refine Wp.back (U' := (T1.setTop (mkF m 15 #[.val (.ref ar), .val (.ref br), .unset] [(.ref br)]))) (fun t k => XS.ifNo X1.here hx rfl (hb hby qned12_11) rfl ((if0 _ _).trans (feq (by decide)).1) (XS.aloadN X1.here hx rfl (hb hby qned12_14) rfl rfl k)) ?_
  obtain ⟨T2, X2, e2, st2⟩ := castY X1 hx hZ hown (hw _ (List.mem_of_getElem? (i := 85) rfl)) e1 (Ins.self H4) (g := (mkF m 15 #[.val (.ref ar), .val (.ref br), .unset] [(.ref br)])) rfl rfl (hb hby qned12_15)
  refine Wp.back (U' := (T2.setTop (mkF m 18 #[.val (.ref ar), .val (.ref br), .unset] [(.ref br)]))) st2 ?_
  refine Wp.back (U' := (T2.setTop (mkF m 19 #[.val (.ref ar), .val (.ref br), .val (.ref br)] []))) (fun t k => XS.astoreN X2.here hx rfl (hb hby qned12_18) rfl rfl (l' := #[.val (.ref ar), .val (.ref br), .val (.ref br)]) rfl k) ?_
  obtain ⟨T3, X3, e3, st3⟩ := getS2 X2 hx hZ hown (host := "") (Or.inl (hw _ (List.mem_of_getElem? (i := 62) rfl))) Via.refl e2 H8 (g := (mkF m 19 #[.val (.ref ar), .val (.ref br), .val (.ref br)] [])) rfl (hb hby qned12_19)
  refine Wp.back (U' := (T3.setTop (mkF m 22 #[.val (.ref ar), .val (.ref br), .val (.ref br)] [(.int cs)]))) st3 ?_
  refine Wp.back (U' := (T3.setTop (mkF m 26 #[.val (.ref ar), .val (.ref br), .val (.ref br)] [(.ref ar)]))) (fun t k => XS.ifNo X3.here hx rfl (hb hby qned12_22) rfl ((if0 _ _).trans (feq hcs).1) (XS.aloadN X3.here hx rfl (hb hby qned12_25) rfl rfl k)) ?_
  obtain ⟨T4, X4, e4, st4⟩ := getF X3 hx hZ hown (host := "") (Or.inl (hw _ (List.mem_of_getElem? (i := 26) rfl))) Via.refl e3 H2 (g := (mkF m 26 #[.val (.ref ar), .val (.ref br), .val (.ref br)] [(.ref ar)])) rfl rfl (hb hby qned12_26)
  refine Wp.back (U' := (T4.setTop (mkF m 29 #[.val (.ref ar), .val (.ref br), .val (.ref br)] [(.int (0 : Int32))]))) st4 ?_
  refine Wp.back (U' := (T4.setTop (mkF m 30 #[.val (.ref ar), .val (.ref br), .val (.ref br)] [(.ref br), (.int (0 : Int32))]))) (fun t k => XS.aloadN X4.here hx rfl (hb hby qned12_29) rfl rfl k) ?_
  obtain ⟨T5, X5, e5, st5⟩ := getF X4 hx hZ hown (host := "") (Or.inl (hw _ (List.mem_of_getElem? (i := 26) rfl))) Via.refl e4 H6 (g := (mkF m 30 #[.val (.ref ar), .val (.ref br), .val (.ref br)] [(.ref br), (.int (0 : Int32))])) rfl rfl (hb hby qned12_30)
  refine Wp.back (U' := (T5.setTop (mkF m 33 #[.val (.ref ar), .val (.ref br), .val (.ref br)] [(.int (0 : Int32)), (.int (0 : Int32))]))) st5 ?_
  refine Wp.back (U' := (T5.setTop (mkF m 37 #[.val (.ref ar), .val (.ref br), .val (.ref br)] [(.ref ar)]))) (fun t k => XS.icmpNo X5.here hx rfl (hb hby qned12_33) rfl (teq (by decide)).2 (XS.aloadN X5.here hx rfl (hb hby qned12_36) rfl rfl k)) ?_
  obtain ⟨T6, X6, e6, st6⟩ := getF X5 hx hZ hown (host := "") (Or.inl (hw _ (List.mem_of_getElem? (i := 25) rfl))) Via.refl e5 H1 (g := (mkF m 37 #[.val (.ref ar), .val (.ref br), .val (.ref br)] [(.ref ar)])) rfl rfl (hb hby qned12_37)
  refine Wp.back (U' := (T6.setTop (mkF m 40 #[.val (.ref ar), .val (.ref br), .val (.ref br)] [(.ref a1)]))) st6 ?_
  refine Wp.back (U' := (T6.setTop (mkF m 41 #[.val (.ref ar), .val (.ref br), .val (.ref br)] [(.ref br), (.ref a1)]))) (fun t k => XS.aloadN X6.here hx rfl (hb hby qned12_40) rfl rfl k) ?_
  obtain ⟨T7, X7, e7, st7⟩ := getF X6 hx hZ hown (host := "") (Or.inl (hw _ (List.mem_of_getElem? (i := 25) rfl))) Via.refl e6 H5 (g := (mkF m 41 #[.val (.ref ar), .val (.ref br), .val (.ref br)] [(.ref br), (.ref a1)])) rfl rfl (hb hby qned12_41)
  refine Wp.back (U' := (T7.setTop (mkF m 44 #[.val (.ref ar), .val (.ref br), .val (.ref br)] [(.ref a2), (.ref a1)]))) st7 ?_
  obtain ⟨_, _, ⟨T8, L8, k8, n8⟩, -, X8, ⟨Lc8, hQ8, l8, y8, z8⟩, st8⟩ := Jvm.LawKit.callS X7 hx (y := (⟨"java/lang/StringLatin1", "equals", "([B[B)Z"⟩ : MethodName)) hown (mvT hZ (hw _ (List.mem_of_getElem? (i := 86) rfl))) (mvT hZ (hw _ (List.mem_of_getElem? (i := 87) rfl))) (mvT hZ (hw _ (List.mem_of_getElem? (i := 88) rfl))) (mvT hZ (hw _ (List.mem_of_getElem? (i := 89) rfl))) (by decide) (backOf (W := 0) (rm_le_ne l Z a0 hw [] a1 a2 k1 k2 z1 z2 vs1 vs2 dv1 dv2 h0 n0 Z0 H3 H7 hz) hZ (hw _ (List.mem_of_getElem? (i := 89) rfl)) (hw _ (List.mem_of_getElem? (i := 88) rfl)) (by decide) (by decide)) (g := (mkF m 44 #[.val (.ref ar), .val (.ref br), .val (.ref br)] [(.ref a2), (.ref a1)])) rfl (by rw [hml]; rfl) (argsL := [(.ref a1), (.ref a2)]) (rest := []) (lenOf qnepd12_0 rfl) rfl (by show 2 * 0 + _ ≤ _; exact Nat.le_of_eq rfl) (hb hby qned12_44) (fun _ _ => ⟨rfl, e7, (by decide : 0 + 0 ≤ _), (by decide : 0 + 0 ≤ _)⟩)
  dsimp only [Pt.U, Pt.locs, Pt.cells, Pt.slots] at X8 l8 y8 z8 st8 hQ8
  subst l8 y8 z8
  obtain ⟨rfl, N8q, K8⟩ := hQ8
  have f9_0 := Nat.le_trans Z0 K8.1
  have f9_1 := H0.keep K8
  have f9_2 := H1.keep K8 nin0
  have f9_3 := H2.keep K8 nin0
  have f9_4 := H3.keep K8 nin0
  have f9_5 := H4.keep K8
  have f9_6 := H5.keep K8 nin0
  have f9_7 := H6.keep K8 nin0
  have f9_8 := H7.keep K8 nin0
  have f9_9 := Sta_keep0 H8 K8
  have f9_10 := (Keep.refl h0 []).trans K8 all0
  have N8 := Fr.app N0 N8q
  refine Wp.back (U' := (T8.setTop (mkF m 47 #[.val (.ref ar), .val (.ref br), .val (.ref br)] [(.int (0 : Int32))]))) st8 ?_
  refine Wp.back (U' := (T8.setTop (mkF m 55 #[.val (.ref ar), .val (.ref br), .val (.ref br)] [(.int (0 : Int32))]))) (fun t k => XS.ifYes X8.here hx rfl (pc0 := 47) (pc' := 54) rfl (hb hby qned12_47) rfl ((if0 _ _).trans (teq (by decide)).1) (by decide) (by decide) (XT.iconstV X8.here hx rfl (0 : Int32) (hb hby qned12_54) (by decide) k)) ?_
  obtain ⟨fs, hr, hrun, hended, hW, hsame⟩ := X8.leave (v := (some (.int (0 : Int32)))) (fun h => by rw [hret] at h; cases h)
  refine Wp.done (retN X8 hx (t := .boolean) hret (by simp) (hb hby qned12_55) hr) hrun hended ⟨_, _, rfl, ?_, ⟨_, rfl⟩, hW, hsame.mono (by decide) (by decide)⟩
  show Q_eq_ne Z ar br a1 a2 cs k1 k2 z1 z2 vs1 vs2 dv1 dv2 h0 n0 _ T8.heap _
  exact ⟨rfl, N8, f9_10⟩
def Q_isxn (Z : State) (ar : Addr) (kr : Addr) (w4 : Addr) (h0 : Heap) (n0 : Nat) (v : Option Value) (h : Heap) (L : List Loc) : Prop := v = some (.int (0 : Int32)) ∧ Fr n0 L ∧ Keep h0 h []
theorem xnd8_0 : decode prog_22_method_3_code 0 = .ok (.aload_n 0, 1) := by decide +kernel
theorem xnd8_1 : decode prog_22_method_3_code 1 = .ok (.getfield 7, 3) := by decide +kernel
theorem xnd8_4 : decode prog_22_method_3_code 4 = .ok (.getstatic 38, 3) := by decide +kernel
theorem xnd8_7 : decode prog_22_method_3_code 7 = .ok (.if_acmp .ne 18, 3) := by decide +kernel
theorem xnd8_25 : decode prog_22_method_3_code 25 = .ok (.iconst 0, 1) := by decide +kernel
theorem xnd8_26 : decode prog_22_method_3_code 26 = .ok (.ireturn, 1) := by decide +kernel
theorem xnpn8 : plainName "com/example/query_to_table/querytotable/sql/Token" = true := by first | (simp [plainName, overriddenIn]; done) | decide +kernel
theorem xnef8 (m : MethodId) (x0 : Addr) : entryFrame m #[(.ref x0), .null] 2 = mkF m 0 #[.val (.ref x0), .val .null] [] := by first | (simp [entryFrame, mkF, argsToLocals, Value.category]; done) | rfl
set_option maxRecDepth 65536 in
set_option maxHeartbeats 40000000 in
theorem rm_isxn (l : Launch) (Z : State) (a0 : Array Value) (hw : ∀ d ∈ tables_1, d.before a0 Z = true) (ws : List Jvm.Cond) (ar : Addr) (kr : Addr) (w4 : Addr) (h0 : Heap) (n0 : Nat) (Z0 : n0 ≤ h0.size) (H0 : Fld Z h0 ar "com/example/query_to_table/querytotable/sql/Token" "kind" "Lcom/example/query_to_table/querytotable/sql/Token$Kind;" (.ref kr)) (H1 : Sta Z h0 "com/example/query_to_table/querytotable/sql/Token$Kind" "SYMBOL" "Lcom/example/query_to_table/querytotable/sql/Token$Kind;" (.ref w4)) (ne_kr_w4 : kr ≠ w4) :
    MetFree l (⟨"com/example/query_to_table/querytotable/sql/Token", "isSymbol", "(Ljava/lang/String;)Z"⟩ : MethodName) (head1 (Jvm.Cond.code (⟨"com/example/query_to_table/querytotable/sql/Token", "isSymbol", "(Ljava/lang/String;)Z"⟩ : MethodName) prog_22_method_3_code 2 (some .boolean) :: ws) ({ frames := 0, cells := 0, slots := 0, locals := 0 } : Room)) (fun a U => a = #[(.ref ar), .null] ∧ Z.Warmed39 U.vm ∧ U.heap = h0) (fun _ _ _ _ _ => True) (fun _ U o U' => ∃ v L, o = .returned v ∧ Q_isxn Z ar kr w4 h0 n0 v U'.heap L ∧ FrameEnd U o U' L ({ frames := 0, cells := 0, slots := 0, locals := 0 } : Room).cells ({ frames := 0, cells := 0, slots := 0, locals := 0 } : Room).slots) := by
  refine MetFree.of_bodySF (plainFor_of_name xnpn8) hisR ?_
  intro p e s m args below meth c s₁ Bd hml0 hP hK
  obtain ⟨rfl, hZ, hh⟩ := hP
  have hx := Bd.exec
  have hby := Bd.bytes
  have hret := Bd.returns
  have hlk := Bd.notSynchronized
  have hml : c.maxLocals = 2 := hml0
  have hown : s.vm.findClass "com/example/query_to_table/querytotable/sql/Token" = some m.cls := findClass_of_methodNamed Bd.named
  have hnm := (name_of_methodNamed Bd.named Bd.method).1
  have X0 : Stand p l e ({ frames := 0, cells := 0, slots := 0, locals := 0 } : Room) s m #[(.ref ar), .null] below meth c s₁ [] 0 0 := Stand.of_body Bd
  have e0 : s₁.heap = h0 := by rw [← hh, Bd.state]; rfl
  have N0 := Fr.nil n0
  show Wp p e below (fun o s₂ => ∃ v L, o = .returned v ∧ Q_isxn Z ar kr w4 h0 n0 v s₂.heap L ∧ FrameEnd s o s₂ L ({ frames := 0, cells := 0, slots := 0, locals := 0 } : Room).cells ({ frames := 0, cells := 0, slots := 0, locals := 0 } : Room).slots) _
  refine Wp.back (U' := (s₁.setTop (mkF m 0 #[.val (.ref ar), .val .null] []))) (fun t k => castTop (xnef8 m ar) k) ?_
  refine Wp.back (U' := (s₁.setTop (mkF m 1 #[.val (.ref ar), .val .null] [(.ref ar)]))) (fun t k => XS.aloadN X0.here hx rfl (hb hby xnd8_0) rfl rfl k) ?_
  obtain ⟨T1, X1, e1, st1⟩ := getF X0 hx hZ hown (host := "") (Or.inl (hw _ (List.mem_of_getElem? (i := 45) rfl))) Via.refl e0 H0 (g := (mkF m 1 #[.val (.ref ar), .val .null] [(.ref ar)])) rfl rfl (hb hby xnd8_1)
  refine Wp.back (U' := (T1.setTop (mkF m 4 #[.val (.ref ar), .val .null] [(.ref kr)]))) st1 ?_
  obtain ⟨T2, X2, e2, st2⟩ := getS2 X1 hx hZ hown (host := "") (Or.inl (hw _ (List.mem_of_getElem? (i := 60) rfl))) Via.refl e1 H1 (g := (mkF m 4 #[.val (.ref ar), .val .null] [(.ref kr)])) rfl (hb hby xnd8_4)
  refine Wp.back (U' := (T2.setTop (mkF m 7 #[.val (.ref ar), .val .null] [(.ref w4), (.ref kr)]))) st2 ?_
  refine Wp.back (U' := (T2.setTop (mkF m 25 #[.val (.ref ar), .val .null] []))) (fun t k => Jvm.RoadKit.acmp (g := (mkF m 7 #[.val (.ref ar), .val .null] [(.ref w4), (.ref kr)])) X2 hx rfl rfl rfl (pc0 := 7) (pc' := 25) (same := false) rfl (hb hby xnd8_7) rfl (decide_eq_false fun q => ne_kr_w4 (Value.ref.inj q)) (by decide) (by decide) k) ?_
  refine Wp.back (U' := (T2.setTop (mkF m 26 #[.val (.ref ar), .val .null] [(.int (0 : Int32))]))) (fun t k => XT.iconstV X2.here hx rfl (0 : Int32) (hb hby xnd8_25) (by decide) k) ?_
  obtain ⟨fs, hr, hrun, hended, hW, hsame⟩ := X2.leave (v := (some (.int (0 : Int32)))) (fun h => by rw [hret] at h; cases h)
  refine Wp.done (retN X2 hx (t := .boolean) hret (by simp) (hb hby xnd8_26) hr) hrun hended ⟨_, _, rfl, ?_, ⟨_, rfl⟩, hW, hsame.mono (by decide) (by decide)⟩
  show Q_isxn Z ar kr w4 h0 n0 _ T2.heap _
  rw [e2]
  exact ⟨rfl, N0, (Keep.refl h0 [])⟩
def Q_isxr (Z : State) (ar : Addr) (br : Addr) (kr : Addr) (w4 : Addr) (h0 : Heap) (n0 : Nat) (v : Option Value) (h : Heap) (L : List Loc) : Prop := v = some (.int (0 : Int32)) ∧ Fr n0 L ∧ Keep h0 h []
theorem xrd8_0 : decode prog_22_method_3_code 0 = .ok (.aload_n 0, 1) := by decide +kernel
theorem xrd8_1 : decode prog_22_method_3_code 1 = .ok (.getfield 7, 3) := by decide +kernel
theorem xrd8_4 : decode prog_22_method_3_code 4 = .ok (.getstatic 38, 3) := by decide +kernel
theorem xrd8_7 : decode prog_22_method_3_code 7 = .ok (.if_acmp .ne 18, 3) := by decide +kernel
theorem xrd8_25 : decode prog_22_method_3_code 25 = .ok (.iconst 0, 1) := by decide +kernel
theorem xrd8_26 : decode prog_22_method_3_code 26 = .ok (.ireturn, 1) := by decide +kernel
theorem xrpn8 : plainName "com/example/query_to_table/querytotable/sql/Token" = true := by first | (simp [plainName, overriddenIn]; done) | decide +kernel
theorem xref8 (m : MethodId) (x0 : Addr) (x1 : Addr) : entryFrame m #[(.ref x0), (.ref x1)] 2 = mkF m 0 #[.val (.ref x0), .val (.ref x1)] [] := by first | (simp [entryFrame, mkF, argsToLocals, Value.category]; done) | rfl
set_option maxRecDepth 65536 in
set_option maxHeartbeats 40000000 in
theorem rm_isxr (l : Launch) (Z : State) (a0 : Array Value) (hw : ∀ d ∈ tables_1, d.before a0 Z = true) (ws : List Jvm.Cond) (ar : Addr) (br : Addr) (kr : Addr) (w4 : Addr) (h0 : Heap) (n0 : Nat) (Z0 : n0 ≤ h0.size) (H0 : Fld Z h0 ar "com/example/query_to_table/querytotable/sql/Token" "kind" "Lcom/example/query_to_table/querytotable/sql/Token$Kind;" (.ref kr)) (H1 : Sta Z h0 "com/example/query_to_table/querytotable/sql/Token$Kind" "SYMBOL" "Lcom/example/query_to_table/querytotable/sql/Token$Kind;" (.ref w4)) (ne_kr_w4 : kr ≠ w4) :
    MetFree l (⟨"com/example/query_to_table/querytotable/sql/Token", "isSymbol", "(Ljava/lang/String;)Z"⟩ : MethodName) (head1 (Jvm.Cond.code (⟨"com/example/query_to_table/querytotable/sql/Token", "isSymbol", "(Ljava/lang/String;)Z"⟩ : MethodName) prog_22_method_3_code 2 (some .boolean) :: ws) ({ frames := 0, cells := 0, slots := 0, locals := 0 } : Room)) (fun a U => a = #[(.ref ar), (.ref br)] ∧ Z.Warmed39 U.vm ∧ U.heap = h0) (fun _ _ _ _ _ => True) (fun _ U o U' => ∃ v L, o = .returned v ∧ Q_isxr Z ar br kr w4 h0 n0 v U'.heap L ∧ FrameEnd U o U' L ({ frames := 0, cells := 0, slots := 0, locals := 0 } : Room).cells ({ frames := 0, cells := 0, slots := 0, locals := 0 } : Room).slots) := by
  refine MetFree.of_bodySF (plainFor_of_name xrpn8) hisR ?_
  intro p e s m args below meth c s₁ Bd hml0 hP hK
  obtain ⟨rfl, hZ, hh⟩ := hP
  have hx := Bd.exec
  have hby := Bd.bytes
  have hret := Bd.returns
  have hlk := Bd.notSynchronized
  have hml : c.maxLocals = 2 := hml0
  have hown : s.vm.findClass "com/example/query_to_table/querytotable/sql/Token" = some m.cls := findClass_of_methodNamed Bd.named
  have hnm := (name_of_methodNamed Bd.named Bd.method).1
  have X0 : Stand p l e ({ frames := 0, cells := 0, slots := 0, locals := 0 } : Room) s m #[(.ref ar), (.ref br)] below meth c s₁ [] 0 0 := Stand.of_body Bd
  have e0 : s₁.heap = h0 := by rw [← hh, Bd.state]; rfl
  have N0 := Fr.nil n0
  show Wp p e below (fun o s₂ => ∃ v L, o = .returned v ∧ Q_isxr Z ar br kr w4 h0 n0 v s₂.heap L ∧ FrameEnd s o s₂ L ({ frames := 0, cells := 0, slots := 0, locals := 0 } : Room).cells ({ frames := 0, cells := 0, slots := 0, locals := 0 } : Room).slots) _
  refine Wp.back (U' := (s₁.setTop (mkF m 0 #[.val (.ref ar), .val (.ref br)] []))) (fun t k => castTop (xref8 m ar br) k) ?_
  refine Wp.back (U' := (s₁.setTop (mkF m 1 #[.val (.ref ar), .val (.ref br)] [(.ref ar)]))) (fun t k => XS.aloadN X0.here hx rfl (hb hby xrd8_0) rfl rfl k) ?_
  obtain ⟨T1, X1, e1, st1⟩ := getF X0 hx hZ hown (host := "") (Or.inl (hw _ (List.mem_of_getElem? (i := 45) rfl))) Via.refl e0 H0 (g := (mkF m 1 #[.val (.ref ar), .val (.ref br)] [(.ref ar)])) rfl rfl (hb hby xrd8_1)
  refine Wp.back (U' := (T1.setTop (mkF m 4 #[.val (.ref ar), .val (.ref br)] [(.ref kr)]))) st1 ?_
  obtain ⟨T2, X2, e2, st2⟩ := getS2 X1 hx hZ hown (host := "") (Or.inl (hw _ (List.mem_of_getElem? (i := 60) rfl))) Via.refl e1 H1 (g := (mkF m 4 #[.val (.ref ar), .val (.ref br)] [(.ref kr)])) rfl (hb hby xrd8_4)
  refine Wp.back (U' := (T2.setTop (mkF m 7 #[.val (.ref ar), .val (.ref br)] [(.ref w4), (.ref kr)]))) st2 ?_
  refine Wp.back (U' := (T2.setTop (mkF m 25 #[.val (.ref ar), .val (.ref br)] []))) (fun t k => Jvm.RoadKit.acmp (g := (mkF m 7 #[.val (.ref ar), .val (.ref br)] [(.ref w4), (.ref kr)])) X2 hx rfl rfl rfl (pc0 := 7) (pc' := 25) (same := false) rfl (hb hby xrd8_7) rfl (decide_eq_false fun q => ne_kr_w4 (Value.ref.inj q)) (by decide) (by decide) k) ?_
  refine Wp.back (U' := (T2.setTop (mkF m 26 #[.val (.ref ar), .val (.ref br)] [(.int (0 : Int32))]))) (fun t k => XT.iconstV X2.here hx rfl (0 : Int32) (hb hby xrd8_25) (by decide) k) ?_
  obtain ⟨fs, hr, hrun, hended, hW, hsame⟩ := X2.leave (v := (some (.int (0 : Int32)))) (fun h => by rw [hret] at h; cases h)
  refine Wp.done (retN X2 hx (t := .boolean) hret (by simp) (hb hby xrd8_26) hr) hrun hended ⟨_, _, rfl, ?_, ⟨_, rfl⟩, hW, hsame.mono (by decide) (by decide)⟩
  show Q_isxr Z ar br kr w4 h0 n0 _ T2.heap _
  rw [e2]
  exact ⟨rfl, N0, (Keep.refl h0 [])⟩
def Q_is0_0 (Z : State) (ar : Addr) (br : Addr) (tx : Addr) (w4 : Addr) (a1 : Addr) (k1 : ClassId) (a2 : Addr) (k2 : ClassId) (cs : Int32) (h0 : Heap) (n0 : Nat) (v : Option Value) (h : Heap) (L : List Loc) : Prop := v = some (.int (1 : Int32)) ∧ Fr n0 L ∧ Keep h0 h []
theorem y0_0d8_0 : decode prog_22_method_3_code 0 = .ok (.aload_n 0, 1) := by decide +kernel
theorem y0_0d8_1 : decode prog_22_method_3_code 1 = .ok (.getfield 7, 3) := by decide +kernel
theorem y0_0d8_4 : decode prog_22_method_3_code 4 = .ok (.getstatic 38, 3) := by decide +kernel
theorem y0_0d8_7 : decode prog_22_method_3_code 7 = .ok (.if_acmp .ne 18, 3) := by decide +kernel
theorem y0_0d8_10 : decode prog_22_method_3_code 10 = .ok (.aload_n 0, 1) := by decide +kernel
theorem y0_0d8_11 : decode prog_22_method_3_code 11 = .ok (.getfield 13, 3) := by decide +kernel
theorem y0_0d8_14 : decode prog_22_method_3_code 14 = .ok (.aload_n 1, 1) := by decide +kernel
theorem y0_0d8_15 : decode prog_22_method_3_code 15 = .ok (.invokevirtual 41, 3) := by decide +kernel
theorem y0_0d8_18 : decode prog_22_method_3_code 18 = .ok (.ifCond .eq 7, 3) := by decide +kernel
theorem y0_0d8_21 : decode prog_22_method_3_code 21 = .ok (.iconst 1, 1) := by decide +kernel
theorem y0_0d8_22 : decode prog_22_method_3_code 22 = .ok (.goto 4, 3) := by decide +kernel
theorem y0_0d8_26 : decode prog_22_method_3_code 26 = .ok (.ireturn, 1) := by decide +kernel
theorem y0_0pd8_0 : parseMethodDescriptor "(Ljava/lang/Object;)Z" = some ⟨[(.object "java/lang/Object")], some .boolean⟩ := by decide +kernel
theorem y0_0pn8 : plainName "com/example/query_to_table/querytotable/sql/Token" = true := by first | (simp [plainName, overriddenIn]; done) | decide +kernel
theorem y0_0ef8 (m : MethodId) (x0 : Addr) (x1 : Addr) : entryFrame m #[(.ref x0), (.ref x1)] 2 = mkF m 0 #[.val (.ref x0), .val (.ref x1)] [] := by first | (simp [entryFrame, mkF, argsToLocals, Value.category]; done) | rfl
set_option maxRecDepth 65536 in
set_option maxHeartbeats 40000000 in
theorem rm_is0_0 (l : Launch) (Z : State) (a0 : Array Value) (hw : ∀ d ∈ tables_1, d.before a0 Z = true) (ws : List Jvm.Cond) (ar : Addr) (br : Addr) (tx : Addr) (w4 : Addr) (a1 : Addr) (k1 : ClassId) (a2 : Addr) (k2 : ClassId) (cs : Int32) (h0 : Heap) (n0 : Nat) (Z0 : n0 ≤ h0.size) (H0 : Fld Z h0 ar "com/example/query_to_table/querytotable/sql/Token" "kind" "Lcom/example/query_to_table/querytotable/sql/Token$Kind;" (.ref w4)) (H1 : Sta Z h0 "com/example/query_to_table/querytotable/sql/Token$Kind" "SYMBOL" "Lcom/example/query_to_table/querytotable/sql/Token$Kind;" (.ref w4)) (H2 : Fld Z h0 ar "com/example/query_to_table/querytotable/sql/Token" "text" "Ljava/lang/String;" (.ref tx)) (H3 : Exa Z h0 tx "java/lang/String") (H4 : Fld Z h0 tx "java/lang/String" "value" "[B" (.ref a1)) (H5 : Fld Z h0 tx "java/lang/String" "coder" "B" (.int (0 : Int32))) (H6 : Arv Z h0 a1 k1 .byte (0 : Int32) [] (.int (0 : Int32))) (H7 : Exa Z h0 br "java/lang/String") (H8 : Fld Z h0 br "java/lang/String" "value" "[B" (.ref a2)) (H9 : Fld Z h0 br "java/lang/String" "coder" "B" (.int (0 : Int32))) (H10 : Arv Z h0 a2 k2 .byte (0 : Int32) [] (.int (0 : Int32))) (H11 : Sta Z h0 "java/lang/String" "COMPACT_STRINGS" "Z" (.int cs)) (ne_tx_br : tx ≠ br) (hcs : ¬ cs = (0 : Int32)) :
    MetFree l (⟨"com/example/query_to_table/querytotable/sql/Token", "isSymbol", "(Ljava/lang/String;)Z"⟩ : MethodName) (head1 (Jvm.Cond.code (⟨"com/example/query_to_table/querytotable/sql/Token", "isSymbol", "(Ljava/lang/String;)Z"⟩ : MethodName) prog_22_method_3_code 2 (some .boolean) :: ws) ({ frames := 2, cells := 0, slots := 0, locals := 28 } : Room)) (fun a U => a = #[(.ref ar), (.ref br)] ∧ Z.Warmed39 U.vm ∧ U.heap = h0) (fun _ _ _ _ _ => True) (fun _ U o U' => ∃ v L, o = .returned v ∧ Q_is0_0 Z ar br tx w4 a1 k1 a2 k2 cs h0 n0 v U'.heap L ∧ FrameEnd U o U' L ({ frames := 2, cells := 0, slots := 0, locals := 28 } : Room).cells ({ frames := 2, cells := 0, slots := 0, locals := 28 } : Room).slots) := by
  refine MetFree.of_bodySF (plainFor_of_name y0_0pn8) hisR ?_
  intro p e s m args below meth c s₁ Bd hml0 hP hK
  obtain ⟨rfl, hZ, hh⟩ := hP
  have hx := Bd.exec
  have hby := Bd.bytes
  have hret := Bd.returns
  have hlk := Bd.notSynchronized
  have hml : c.maxLocals = 2 := hml0
  have hown : s.vm.findClass "com/example/query_to_table/querytotable/sql/Token" = some m.cls := findClass_of_methodNamed Bd.named
  have hnm := (name_of_methodNamed Bd.named Bd.method).1
  have X0 : Stand p l e ({ frames := 2, cells := 0, slots := 0, locals := 28 } : Room) s m #[(.ref ar), (.ref br)] below meth c s₁ [] 0 0 := Stand.of_body Bd
  have e0 : s₁.heap = h0 := by rw [← hh, Bd.state]; rfl
  have N0 := Fr.nil n0
  show Wp p e below (fun o s₂ => ∃ v L, o = .returned v ∧ Q_is0_0 Z ar br tx w4 a1 k1 a2 k2 cs h0 n0 v s₂.heap L ∧ FrameEnd s o s₂ L ({ frames := 2, cells := 0, slots := 0, locals := 28 } : Room).cells ({ frames := 2, cells := 0, slots := 0, locals := 28 } : Room).slots) _
  refine Wp.back (U' := (s₁.setTop (mkF m 0 #[.val (.ref ar), .val (.ref br)] []))) (fun t k => castTop (y0_0ef8 m ar br) k) ?_
  refine Wp.back (U' := (s₁.setTop (mkF m 1 #[.val (.ref ar), .val (.ref br)] [(.ref ar)]))) (fun t k => XS.aloadN X0.here hx rfl (hb hby y0_0d8_0) rfl rfl k) ?_
  obtain ⟨T1, X1, e1, st1⟩ := getF X0 hx hZ hown (host := "") (Or.inl (hw _ (List.mem_of_getElem? (i := 45) rfl))) Via.refl e0 H0 (g := (mkF m 1 #[.val (.ref ar), .val (.ref br)] [(.ref ar)])) rfl rfl (hb hby y0_0d8_1)
  refine Wp.back (U' := (T1.setTop (mkF m 4 #[.val (.ref ar), .val (.ref br)] [(.ref w4)]))) st1 ?_
  obtain ⟨T2, X2, e2, st2⟩ := getS2 X1 hx hZ hown (host := "") (Or.inl (hw _ (List.mem_of_getElem? (i := 60) rfl))) Via.refl e1 H1 (g := (mkF m 4 #[.val (.ref ar), .val (.ref br)] [(.ref w4)])) rfl (hb hby y0_0d8_4)
  refine Wp.back (U' := (T2.setTop (mkF m 7 #[.val (.ref ar), .val (.ref br)] [(.ref w4), (.ref w4)]))) st2 ?_
  refine Wp.back (U' := (T2.setTop (mkF m 10 #[.val (.ref ar), .val (.ref br)] []))) (fun t k => Jvm.RoadKit.acmp (g := (mkF m 7 #[.val (.ref ar), .val (.ref br)] [(.ref w4), (.ref w4)])) X2 hx rfl rfl rfl (pc0 := 7) (pc' := 10) (same := true) rfl (hb hby y0_0d8_7) rfl (decide_eq_true rfl) (by decide) (by decide) k) ?_
  refine Wp.back (U' := (T2.setTop (mkF m 11 #[.val (.ref ar), .val (.ref br)] [(.ref ar)]))) (fun t k => XS.aloadN X2.here hx rfl (hb hby y0_0d8_10) rfl rfl k) ?_
  obtain ⟨T3, X3, e3, st3⟩ := getF X2 hx hZ hown (host := "") (Or.inl (hw _ (List.mem_of_getElem? (i := 47) rfl))) Via.refl e2 H2 (g := (mkF m 11 #[.val (.ref ar), .val (.ref br)] [(.ref ar)])) rfl rfl (hb hby y0_0d8_11)
  refine Wp.back (U' := (T3.setTop (mkF m 14 #[.val (.ref ar), .val (.ref br)] [(.ref tx)]))) st3 ?_
  refine Wp.back (U' := (T3.setTop (mkF m 15 #[.val (.ref ar), .val (.ref br)] [(.ref br), (.ref tx)]))) (fun t k => XS.aloadN X3.here hx rfl (hb hby y0_0d8_14) rfl rfl k) ?_
  obtain ⟨cq4, kq4, q4a, q4b, q4c⟩ := isOf hZ e3 H3
  obtain ⟨_, _, ⟨T4, L4, k4, n4⟩, -, X4, ⟨Lc4, hQ4, l4, y4, z4⟩, st4⟩ := X3.virtualBack hx (y := (⟨"java/lang/String", "equals", "(Ljava/lang/Object;)Z"⟩ : MethodName)) (z := (⟨"java/lang/String", "equals", "(Ljava/lang/Object;)Z"⟩ : MethodName)) hown (mvT hZ (hw _ (List.mem_of_getElem? (i := 74) rfl))) (mvT hZ (hw _ (List.mem_of_getElem? (i := 75) rfl))) (notFace_of_selects (args := #[]) (mvT hZ (hw _ (List.mem_of_getElem? (i := 77) rfl)))) (mvT hZ (hw _ (List.mem_of_getElem? (i := 77) rfl))) (mvT hZ (hw _ (List.mem_of_getElem? (i := 76) rfl))) (by decide) (backOf (W := 0) (rm_eq0_0 l Z a0 hw [] tx br a1 a2 k1 k2 cs h0 n0 Z0 H3 H4 H5 H6 H7 H8 H9 H10 H11 ne_tx_br hcs) hZ (hw _ (List.mem_of_getElem? (i := 78) rfl)) (hw _ (List.mem_of_getElem? (i := 7) rfl)) (by decide) (by decide)) q4a q4c (g := (mkF m 15 #[.val (.ref ar), .val (.ref br)] [(.ref br), (.ref tx)])) rfl (by rw [hml]; rfl) (Steps.refl _) (argsL := [(.ref br)]) (rest := []) (lenOf y0_0pd8_0 rfl) rfl (by show 2 * 0 + _ ≤ _; exact Nat.le_of_eq rfl) (hb hby y0_0d8_15) (fun _ _ => ⟨rfl, e3, (by decide : 0 + 0 ≤ _), (by decide : 0 + 0 ≤ _)⟩)
  dsimp only [Pt.U, Pt.locs, Pt.cells, Pt.slots] at X4 l4 y4 z4 st4 hQ4
  subst l4 y4 z4
  obtain ⟨rfl, N4q, K4⟩ := hQ4
  have f5_0 := Nat.le_trans Z0 K4.1
  have f5_1 := H0.keep K4 nin0
  have f5_2 := Sta_keep0 H1 K4
  have f5_3 := H2.keep K4 nin0
  have f5_4 := H3.keep K4
  have f5_5 := H4.keep K4 nin0
  have f5_6 := H5.keep K4 nin0
  have f5_7 := H6.keep K4 nin0
  have f5_8 := H7.keep K4
  have f5_9 := H8.keep K4 nin0
  have f5_10 := H9.keep K4 nin0
  have f5_11 := H10.keep K4 nin0
  have f5_12 := Sta_keep0 H11 K4
  have f5_13 := (Keep.refl h0 []).trans K4 all0
  have N4 := Fr.app N0 N4q
  refine Wp.back (U' := (T4.setTop (mkF m 18 #[.val (.ref ar), .val (.ref br)] [(.int (1 : Int32))]))) (fun t k => st4.trans k) ?_
  refine Wp.back (U' := (T4.setTop (mkF m 26 #[.val (.ref ar), .val (.ref br)] [(.int (1 : Int32))]))) (fun t k => XS.ifNo X4.here hx rfl (hb hby y0_0d8_18) rfl ((if0 _ _).trans (feq (by decide)).1) (XT.iconstV X4.here hx rfl (1 : Int32) (hb hby y0_0d8_21) (by decide) (XS.goto X4.here hx rfl (pc0 := 22) (pc' := 26) rfl (hb hby y0_0d8_22) (by decide) (by decide) k))) ?_
  obtain ⟨fs, hr, hrun, hended, hW, hsame⟩ := X4.leave (v := (some (.int (1 : Int32)))) (fun h => by rw [hret] at h; cases h)
  refine Wp.done (retN X4 hx (t := .boolean) hret (by simp) (hb hby y0_0d8_26) hr) hrun hended ⟨_, _, rfl, ?_, ⟨_, rfl⟩, hW, hsame.mono (by decide) (by decide)⟩
  show Q_is0_0 Z ar br tx w4 a1 k1 a2 k2 cs h0 n0 _ T4.heap _
  exact ⟨rfl, N4, f5_13⟩
def f_is1_1 (v0 : Int32) (w0 : Int32) : Int32 := (if (f_eq1_1 v0 w0) = (0 : Int32) then (0 : Int32) else (1 : Int32))
def Q_is1_1 (Z : State) (ar : Addr) (br : Addr) (tx : Addr) (w4 : Addr) (a1 : Addr) (k1 : ClassId) (a2 : Addr) (k2 : ClassId) (cs : Int32) (v0 : Int32) (w0 : Int32) (h0 : Heap) (n0 : Nat) (v : Option Value) (h : Heap) (L : List Loc) : Prop := v = some (.int (f_is1_1 v0 w0)) ∧ Fr n0 L ∧ Keep h0 h []
theorem y1_1d8_0 : decode prog_22_method_3_code 0 = .ok (.aload_n 0, 1) := by decide +kernel
theorem y1_1d8_1 : decode prog_22_method_3_code 1 = .ok (.getfield 7, 3) := by decide +kernel
theorem y1_1d8_4 : decode prog_22_method_3_code 4 = .ok (.getstatic 38, 3) := by decide +kernel
theorem y1_1d8_7 : decode prog_22_method_3_code 7 = .ok (.if_acmp .ne 18, 3) := by decide +kernel
theorem y1_1d8_10 : decode prog_22_method_3_code 10 = .ok (.aload_n 0, 1) := by decide +kernel
theorem y1_1d8_11 : decode prog_22_method_3_code 11 = .ok (.getfield 13, 3) := by decide +kernel
theorem y1_1d8_14 : decode prog_22_method_3_code 14 = .ok (.aload_n 1, 1) := by decide +kernel
theorem y1_1d8_15 : decode prog_22_method_3_code 15 = .ok (.invokevirtual 41, 3) := by decide +kernel
theorem y1_1d8_18 : decode prog_22_method_3_code 18 = .ok (.ifCond .eq 7, 3) := by decide +kernel
theorem y1_1d8_21 : decode prog_22_method_3_code 21 = .ok (.iconst 1, 1) := by decide +kernel
theorem y1_1d8_22 : decode prog_22_method_3_code 22 = .ok (.goto 4, 3) := by decide +kernel
theorem y1_1d8_25 : decode prog_22_method_3_code 25 = .ok (.iconst 0, 1) := by decide +kernel
theorem y1_1d8_26 : decode prog_22_method_3_code 26 = .ok (.ireturn, 1) := by decide +kernel
theorem y1_1pd8_0 : parseMethodDescriptor "(Ljava/lang/Object;)Z" = some ⟨[(.object "java/lang/Object")], some .boolean⟩ := by decide +kernel
theorem y1_1pn8 : plainName "com/example/query_to_table/querytotable/sql/Token" = true := by first | (simp [plainName, overriddenIn]; done) | decide +kernel
theorem y1_1ef8 (m : MethodId) (x0 : Addr) (x1 : Addr) : entryFrame m #[(.ref x0), (.ref x1)] 2 = mkF m 0 #[.val (.ref x0), .val (.ref x1)] [] := by first | (simp [entryFrame, mkF, argsToLocals, Value.category]; done) | rfl
set_option maxRecDepth 65536 in
set_option maxHeartbeats 40000000 in
theorem rm_is1_1 (l : Launch) (Z : State) (a0 : Array Value) (hw : ∀ d ∈ tables_1, d.before a0 Z = true) (ws : List Jvm.Cond) (ar : Addr) (br : Addr) (tx : Addr) (w4 : Addr) (a1 : Addr) (k1 : ClassId) (a2 : Addr) (k2 : ClassId) (cs : Int32) (v0 : Int32) (w0 : Int32) (h0 : Heap) (n0 : Nat) (Z0 : n0 ≤ h0.size) (H0 : Fld Z h0 ar "com/example/query_to_table/querytotable/sql/Token" "kind" "Lcom/example/query_to_table/querytotable/sql/Token$Kind;" (.ref w4)) (H1 : Sta Z h0 "com/example/query_to_table/querytotable/sql/Token$Kind" "SYMBOL" "Lcom/example/query_to_table/querytotable/sql/Token$Kind;" (.ref w4)) (H2 : Fld Z h0 ar "com/example/query_to_table/querytotable/sql/Token" "text" "Ljava/lang/String;" (.ref tx)) (H3 : Exa Z h0 tx "java/lang/String") (H4 : Fld Z h0 tx "java/lang/String" "value" "[B" (.ref a1)) (H5 : Fld Z h0 tx "java/lang/String" "coder" "B" (.int (0 : Int32))) (H6 : Arv Z h0 a1 k1 .byte (1 : Int32) [(.int v0)] (.int (0 : Int32))) (H7 : Exa Z h0 br "java/lang/String") (H8 : Fld Z h0 br "java/lang/String" "value" "[B" (.ref a2)) (H9 : Fld Z h0 br "java/lang/String" "coder" "B" (.int (0 : Int32))) (H10 : Arv Z h0 a2 k2 .byte (1 : Int32) [(.int w0)] (.int (0 : Int32))) (H11 : Sta Z h0 "java/lang/String" "COMPACT_STRINGS" "Z" (.int cs)) (ne_tx_br : tx ≠ br) (hcs : ¬ cs = (0 : Int32)) :
    MetFree l (⟨"com/example/query_to_table/querytotable/sql/Token", "isSymbol", "(Ljava/lang/String;)Z"⟩ : MethodName) (head1 (Jvm.Cond.code (⟨"com/example/query_to_table/querytotable/sql/Token", "isSymbol", "(Ljava/lang/String;)Z"⟩ : MethodName) prog_22_method_3_code 2 (some .boolean) :: ws) ({ frames := 2, cells := 0, slots := 0, locals := 28 } : Room)) (fun a U => a = #[(.ref ar), (.ref br)] ∧ Z.Warmed39 U.vm ∧ U.heap = h0) (fun _ _ _ _ _ => True) (fun _ U o U' => ∃ v L, o = .returned v ∧ Q_is1_1 Z ar br tx w4 a1 k1 a2 k2 cs v0 w0 h0 n0 v U'.heap L ∧ FrameEnd U o U' L ({ frames := 2, cells := 0, slots := 0, locals := 28 } : Room).cells ({ frames := 2, cells := 0, slots := 0, locals := 28 } : Room).slots) := by
  refine MetFree.of_bodySF (plainFor_of_name y1_1pn8) hisR ?_
  intro p e s m args below meth c s₁ Bd hml0 hP hK
  obtain ⟨rfl, hZ, hh⟩ := hP
  have hx := Bd.exec
  have hby := Bd.bytes
  have hret := Bd.returns
  have hlk := Bd.notSynchronized
  have hml : c.maxLocals = 2 := hml0
  have hown : s.vm.findClass "com/example/query_to_table/querytotable/sql/Token" = some m.cls := findClass_of_methodNamed Bd.named
  have hnm := (name_of_methodNamed Bd.named Bd.method).1
  have X0 : Stand p l e ({ frames := 2, cells := 0, slots := 0, locals := 28 } : Room) s m #[(.ref ar), (.ref br)] below meth c s₁ [] 0 0 := Stand.of_body Bd
  have e0 : s₁.heap = h0 := by rw [← hh, Bd.state]; rfl
  have N0 := Fr.nil n0
  show Wp p e below (fun o s₂ => ∃ v L, o = .returned v ∧ Q_is1_1 Z ar br tx w4 a1 k1 a2 k2 cs v0 w0 h0 n0 v s₂.heap L ∧ FrameEnd s o s₂ L ({ frames := 2, cells := 0, slots := 0, locals := 28 } : Room).cells ({ frames := 2, cells := 0, slots := 0, locals := 28 } : Room).slots) _
  refine Wp.back (U' := (s₁.setTop (mkF m 0 #[.val (.ref ar), .val (.ref br)] []))) (fun t k => castTop (y1_1ef8 m ar br) k) ?_
  refine Wp.back (U' := (s₁.setTop (mkF m 1 #[.val (.ref ar), .val (.ref br)] [(.ref ar)]))) (fun t k => XS.aloadN X0.here hx rfl (hb hby y1_1d8_0) rfl rfl k) ?_
  obtain ⟨T1, X1, e1, st1⟩ := getF X0 hx hZ hown (host := "") (Or.inl (hw _ (List.mem_of_getElem? (i := 45) rfl))) Via.refl e0 H0 (g := (mkF m 1 #[.val (.ref ar), .val (.ref br)] [(.ref ar)])) rfl rfl (hb hby y1_1d8_1)
  refine Wp.back (U' := (T1.setTop (mkF m 4 #[.val (.ref ar), .val (.ref br)] [(.ref w4)]))) st1 ?_
  obtain ⟨T2, X2, e2, st2⟩ := getS2 X1 hx hZ hown (host := "") (Or.inl (hw _ (List.mem_of_getElem? (i := 60) rfl))) Via.refl e1 H1 (g := (mkF m 4 #[.val (.ref ar), .val (.ref br)] [(.ref w4)])) rfl (hb hby y1_1d8_4)
  refine Wp.back (U' := (T2.setTop (mkF m 7 #[.val (.ref ar), .val (.ref br)] [(.ref w4), (.ref w4)]))) st2 ?_
  refine Wp.back (U' := (T2.setTop (mkF m 10 #[.val (.ref ar), .val (.ref br)] []))) (fun t k => Jvm.RoadKit.acmp (g := (mkF m 7 #[.val (.ref ar), .val (.ref br)] [(.ref w4), (.ref w4)])) X2 hx rfl rfl rfl (pc0 := 7) (pc' := 10) (same := true) rfl (hb hby y1_1d8_7) rfl (decide_eq_true rfl) (by decide) (by decide) k) ?_
  refine Wp.back (U' := (T2.setTop (mkF m 11 #[.val (.ref ar), .val (.ref br)] [(.ref ar)]))) (fun t k => XS.aloadN X2.here hx rfl (hb hby y1_1d8_10) rfl rfl k) ?_
  obtain ⟨T3, X3, e3, st3⟩ := getF X2 hx hZ hown (host := "") (Or.inl (hw _ (List.mem_of_getElem? (i := 47) rfl))) Via.refl e2 H2 (g := (mkF m 11 #[.val (.ref ar), .val (.ref br)] [(.ref ar)])) rfl rfl (hb hby y1_1d8_11)
  refine Wp.back (U' := (T3.setTop (mkF m 14 #[.val (.ref ar), .val (.ref br)] [(.ref tx)]))) st3 ?_
  refine Wp.back (U' := (T3.setTop (mkF m 15 #[.val (.ref ar), .val (.ref br)] [(.ref br), (.ref tx)]))) (fun t k => XS.aloadN X3.here hx rfl (hb hby y1_1d8_14) rfl rfl k) ?_
  obtain ⟨cq4, kq4, q4a, q4b, q4c⟩ := isOf hZ e3 H3
  obtain ⟨_, _, ⟨T4, L4, k4, n4⟩, -, X4, ⟨Lc4, hQ4, l4, y4, z4⟩, st4⟩ := X3.virtualBack hx (y := (⟨"java/lang/String", "equals", "(Ljava/lang/Object;)Z"⟩ : MethodName)) (z := (⟨"java/lang/String", "equals", "(Ljava/lang/Object;)Z"⟩ : MethodName)) hown (mvT hZ (hw _ (List.mem_of_getElem? (i := 74) rfl))) (mvT hZ (hw _ (List.mem_of_getElem? (i := 75) rfl))) (notFace_of_selects (args := #[]) (mvT hZ (hw _ (List.mem_of_getElem? (i := 77) rfl)))) (mvT hZ (hw _ (List.mem_of_getElem? (i := 77) rfl))) (mvT hZ (hw _ (List.mem_of_getElem? (i := 76) rfl))) (by decide) (backOf (W := 0) (rm_eq1_1 l Z a0 hw [] tx br a1 a2 k1 k2 cs v0 w0 h0 n0 Z0 H3 H4 H5 H6 H7 H8 H9 H10 H11 ne_tx_br hcs) hZ (hw _ (List.mem_of_getElem? (i := 78) rfl)) (hw _ (List.mem_of_getElem? (i := 7) rfl)) (by decide) (by decide)) q4a q4c (g := (mkF m 15 #[.val (.ref ar), .val (.ref br)] [(.ref br), (.ref tx)])) rfl (by rw [hml]; rfl) (Steps.refl _) (argsL := [(.ref br)]) (rest := []) (lenOf y1_1pd8_0 rfl) rfl (by show 2 * 0 + _ ≤ _; exact Nat.le_of_eq rfl) (hb hby y1_1d8_15) (fun _ _ => ⟨rfl, e3, (by decide : 0 + 0 ≤ _), (by decide : 0 + 0 ≤ _)⟩)
  dsimp only [Pt.U, Pt.locs, Pt.cells, Pt.slots] at X4 l4 y4 z4 st4 hQ4
  subst l4 y4 z4
  obtain ⟨rfl, N4q, K4⟩ := hQ4
  have f5_0 := Nat.le_trans Z0 K4.1
  have f5_1 := H0.keep K4 nin0
  have f5_2 := Sta_keep0 H1 K4
  have f5_3 := H2.keep K4 nin0
  have f5_4 := H3.keep K4
  have f5_5 := H4.keep K4 nin0
  have f5_6 := H5.keep K4 nin0
  have f5_7 := H6.keep K4 nin0
  have f5_8 := H7.keep K4
  have f5_9 := H8.keep K4 nin0
  have f5_10 := H9.keep K4 nin0
  have f5_11 := H10.keep K4 nin0
  have f5_12 := Sta_keep0 H11 K4
  have f5_13 := (Keep.refl h0 []).trans K4 all0
  have N4 := Fr.app N0 N4q
  refine Wp.back (U' := (T4.setTop (mkF m 18 #[.val (.ref ar), .val (.ref br)] [(.int (f_eq1_1 v0 w0))]))) (fun t k => st4.trans k) ?_
  by_cases c18_6 : (f_eq1_1 v0 w0) = (0 : Int32)
  · refine Wp.back (U' := (T4.setTop (mkF m 26 #[.val (.ref ar), .val (.ref br)] [(.int (0 : Int32))]))) (fun t k => XS.ifYes X4.here hx rfl (pc0 := 18) (pc' := 25) rfl (hb hby y1_1d8_18) rfl ((if0 _ _).trans (teq c18_6).1) (by decide) (by decide) (XT.iconstV X4.here hx rfl (0 : Int32) (hb hby y1_1d8_25) (by decide) k)) ?_
    obtain ⟨fs, hr, hrun, hended, hW, hsame⟩ := X4.leave (v := (some (.int (0 : Int32)))) (fun h => by rw [hret] at h; cases h)
    refine Wp.done (retN X4 hx (t := .boolean) hret (by simp) (hb hby y1_1d8_26) hr) hrun hended ⟨_, _, rfl, ?_, ⟨_, rfl⟩, hW, hsame.mono (by decide) (by decide)⟩
    show Q_is1_1 Z ar br tx w4 a1 k1 a2 k2 cs v0 w0 h0 n0 _ T4.heap _
    exact ⟨(by rw [f_is1_1, if_pos c18_6]), N4, f5_13⟩
  · refine Wp.back (U' := (T4.setTop (mkF m 26 #[.val (.ref ar), .val (.ref br)] [(.int (1 : Int32))]))) (fun t k => XS.ifNo X4.here hx rfl (hb hby y1_1d8_18) rfl ((if0 _ _).trans (feq c18_6).1) (XT.iconstV X4.here hx rfl (1 : Int32) (hb hby y1_1d8_21) (by decide) (XS.goto X4.here hx rfl (pc0 := 22) (pc' := 26) rfl (hb hby y1_1d8_22) (by decide) (by decide) k))) ?_
    obtain ⟨fs, hr, hrun, hended, hW, hsame⟩ := X4.leave (v := (some (.int (1 : Int32)))) (fun h => by rw [hret] at h; cases h)
    refine Wp.done (retN X4 hx (t := .boolean) hret (by simp) (hb hby y1_1d8_26) hr) hrun hended ⟨_, _, rfl, ?_, ⟨_, rfl⟩, hW, hsame.mono (by decide) (by decide)⟩
    show Q_is1_1 Z ar br tx w4 a1 k1 a2 k2 cs v0 w0 h0 n0 _ T4.heap _
    exact ⟨(by rw [f_is1_1, if_neg c18_6]), N4, f5_13⟩
def f_is2_2 (v0 : Int32) (v1 : Int32) (w0 : Int32) (w1 : Int32) : Int32 := (if (f_eq2_2 v0 v1 w0 w1) = (0 : Int32) then (0 : Int32) else (1 : Int32))
def Q_is2_2 (Z : State) (ar : Addr) (br : Addr) (tx : Addr) (w4 : Addr) (a1 : Addr) (k1 : ClassId) (a2 : Addr) (k2 : ClassId) (cs : Int32) (v0 : Int32) (v1 : Int32) (w0 : Int32) (w1 : Int32) (h0 : Heap) (n0 : Nat) (v : Option Value) (h : Heap) (L : List Loc) : Prop := v = some (.int (f_is2_2 v0 v1 w0 w1)) ∧ Fr n0 L ∧ Keep h0 h []
theorem y2_2d8_0 : decode prog_22_method_3_code 0 = .ok (.aload_n 0, 1) := by decide +kernel
theorem y2_2d8_1 : decode prog_22_method_3_code 1 = .ok (.getfield 7, 3) := by decide +kernel
theorem y2_2d8_4 : decode prog_22_method_3_code 4 = .ok (.getstatic 38, 3) := by decide +kernel
theorem y2_2d8_7 : decode prog_22_method_3_code 7 = .ok (.if_acmp .ne 18, 3) := by decide +kernel
theorem y2_2d8_10 : decode prog_22_method_3_code 10 = .ok (.aload_n 0, 1) := by decide +kernel
theorem y2_2d8_11 : decode prog_22_method_3_code 11 = .ok (.getfield 13, 3) := by decide +kernel
theorem y2_2d8_14 : decode prog_22_method_3_code 14 = .ok (.aload_n 1, 1) := by decide +kernel
theorem y2_2d8_15 : decode prog_22_method_3_code 15 = .ok (.invokevirtual 41, 3) := by decide +kernel
theorem y2_2d8_18 : decode prog_22_method_3_code 18 = .ok (.ifCond .eq 7, 3) := by decide +kernel
theorem y2_2d8_21 : decode prog_22_method_3_code 21 = .ok (.iconst 1, 1) := by decide +kernel
theorem y2_2d8_22 : decode prog_22_method_3_code 22 = .ok (.goto 4, 3) := by decide +kernel
theorem y2_2d8_25 : decode prog_22_method_3_code 25 = .ok (.iconst 0, 1) := by decide +kernel
theorem y2_2d8_26 : decode prog_22_method_3_code 26 = .ok (.ireturn, 1) := by decide +kernel
theorem y2_2pd8_0 : parseMethodDescriptor "(Ljava/lang/Object;)Z" = some ⟨[(.object "java/lang/Object")], some .boolean⟩ := by decide +kernel
theorem y2_2pn8 : plainName "com/example/query_to_table/querytotable/sql/Token" = true := by first | (simp [plainName, overriddenIn]; done) | decide +kernel
theorem y2_2ef8 (m : MethodId) (x0 : Addr) (x1 : Addr) : entryFrame m #[(.ref x0), (.ref x1)] 2 = mkF m 0 #[.val (.ref x0), .val (.ref x1)] [] := by first | (simp [entryFrame, mkF, argsToLocals, Value.category]; done) | rfl
set_option maxRecDepth 65536 in
set_option maxHeartbeats 40000000 in
theorem rm_is2_2 (l : Launch) (Z : State) (a0 : Array Value) (hw : ∀ d ∈ tables_1, d.before a0 Z = true) (ws : List Jvm.Cond) (ar : Addr) (br : Addr) (tx : Addr) (w4 : Addr) (a1 : Addr) (k1 : ClassId) (a2 : Addr) (k2 : ClassId) (cs : Int32) (v0 : Int32) (v1 : Int32) (w0 : Int32) (w1 : Int32) (h0 : Heap) (n0 : Nat) (Z0 : n0 ≤ h0.size) (H0 : Fld Z h0 ar "com/example/query_to_table/querytotable/sql/Token" "kind" "Lcom/example/query_to_table/querytotable/sql/Token$Kind;" (.ref w4)) (H1 : Sta Z h0 "com/example/query_to_table/querytotable/sql/Token$Kind" "SYMBOL" "Lcom/example/query_to_table/querytotable/sql/Token$Kind;" (.ref w4)) (H2 : Fld Z h0 ar "com/example/query_to_table/querytotable/sql/Token" "text" "Ljava/lang/String;" (.ref tx)) (H3 : Exa Z h0 tx "java/lang/String") (H4 : Fld Z h0 tx "java/lang/String" "value" "[B" (.ref a1)) (H5 : Fld Z h0 tx "java/lang/String" "coder" "B" (.int (0 : Int32))) (H6 : Arv Z h0 a1 k1 .byte (2 : Int32) [(.int v0), (.int v1)] (.int (0 : Int32))) (H7 : Exa Z h0 br "java/lang/String") (H8 : Fld Z h0 br "java/lang/String" "value" "[B" (.ref a2)) (H9 : Fld Z h0 br "java/lang/String" "coder" "B" (.int (0 : Int32))) (H10 : Arv Z h0 a2 k2 .byte (2 : Int32) [(.int w0), (.int w1)] (.int (0 : Int32))) (H11 : Sta Z h0 "java/lang/String" "COMPACT_STRINGS" "Z" (.int cs)) (ne_tx_br : tx ≠ br) (hcs : ¬ cs = (0 : Int32)) :
    MetFree l (⟨"com/example/query_to_table/querytotable/sql/Token", "isSymbol", "(Ljava/lang/String;)Z"⟩ : MethodName) (head1 (Jvm.Cond.code (⟨"com/example/query_to_table/querytotable/sql/Token", "isSymbol", "(Ljava/lang/String;)Z"⟩ : MethodName) prog_22_method_3_code 2 (some .boolean) :: ws) ({ frames := 2, cells := 0, slots := 0, locals := 28 } : Room)) (fun a U => a = #[(.ref ar), (.ref br)] ∧ Z.Warmed39 U.vm ∧ U.heap = h0) (fun _ _ _ _ _ => True) (fun _ U o U' => ∃ v L, o = .returned v ∧ Q_is2_2 Z ar br tx w4 a1 k1 a2 k2 cs v0 v1 w0 w1 h0 n0 v U'.heap L ∧ FrameEnd U o U' L ({ frames := 2, cells := 0, slots := 0, locals := 28 } : Room).cells ({ frames := 2, cells := 0, slots := 0, locals := 28 } : Room).slots) := by
  refine MetFree.of_bodySF (plainFor_of_name y2_2pn8) hisR ?_
  intro p e s m args below meth c s₁ Bd hml0 hP hK
  obtain ⟨rfl, hZ, hh⟩ := hP
  have hx := Bd.exec
  have hby := Bd.bytes
  have hret := Bd.returns
  have hlk := Bd.notSynchronized
  have hml : c.maxLocals = 2 := hml0
  have hown : s.vm.findClass "com/example/query_to_table/querytotable/sql/Token" = some m.cls := findClass_of_methodNamed Bd.named
  have hnm := (name_of_methodNamed Bd.named Bd.method).1
  have X0 : Stand p l e ({ frames := 2, cells := 0, slots := 0, locals := 28 } : Room) s m #[(.ref ar), (.ref br)] below meth c s₁ [] 0 0 := Stand.of_body Bd
  have e0 : s₁.heap = h0 := by rw [← hh, Bd.state]; rfl
  have N0 := Fr.nil n0
  show Wp p e below (fun o s₂ => ∃ v L, o = .returned v ∧ Q_is2_2 Z ar br tx w4 a1 k1 a2 k2 cs v0 v1 w0 w1 h0 n0 v s₂.heap L ∧ FrameEnd s o s₂ L ({ frames := 2, cells := 0, slots := 0, locals := 28 } : Room).cells ({ frames := 2, cells := 0, slots := 0, locals := 28 } : Room).slots) _
  refine Wp.back (U' := (s₁.setTop (mkF m 0 #[.val (.ref ar), .val (.ref br)] []))) (fun t k => castTop (y2_2ef8 m ar br) k) ?_
  refine Wp.back (U' := (s₁.setTop (mkF m 1 #[.val (.ref ar), .val (.ref br)] [(.ref ar)]))) (fun t k => XS.aloadN X0.here hx rfl (hb hby y2_2d8_0) rfl rfl k) ?_
  obtain ⟨T1, X1, e1, st1⟩ := getF X0 hx hZ hown (host := "") (Or.inl (hw _ (List.mem_of_getElem? (i := 45) rfl))) Via.refl e0 H0 (g := (mkF m 1 #[.val (.ref ar), .val (.ref br)] [(.ref ar)])) rfl rfl (hb hby y2_2d8_1)
  refine Wp.back (U' := (T1.setTop (mkF m 4 #[.val (.ref ar), .val (.ref br)] [(.ref w4)]))) st1 ?_
  obtain ⟨T2, X2, e2, st2⟩ := getS2 X1 hx hZ hown (host := "") (Or.inl (hw _ (List.mem_of_getElem? (i := 60) rfl))) Via.refl e1 H1 (g := (mkF m 4 #[.val (.ref ar), .val (.ref br)] [(.ref w4)])) rfl (hb hby y2_2d8_4)
  refine Wp.back (U' := (T2.setTop (mkF m 7 #[.val (.ref ar), .val (.ref br)] [(.ref w4), (.ref w4)]))) st2 ?_
  refine Wp.back (U' := (T2.setTop (mkF m 10 #[.val (.ref ar), .val (.ref br)] []))) (fun t k => Jvm.RoadKit.acmp (g := (mkF m 7 #[.val (.ref ar), .val (.ref br)] [(.ref w4), (.ref w4)])) X2 hx rfl rfl rfl (pc0 := 7) (pc' := 10) (same := true) rfl (hb hby y2_2d8_7) rfl (decide_eq_true rfl) (by decide) (by decide) k) ?_
  refine Wp.back (U' := (T2.setTop (mkF m 11 #[.val (.ref ar), .val (.ref br)] [(.ref ar)]))) (fun t k => XS.aloadN X2.here hx rfl (hb hby y2_2d8_10) rfl rfl k) ?_
  obtain ⟨T3, X3, e3, st3⟩ := getF X2 hx hZ hown (host := "") (Or.inl (hw _ (List.mem_of_getElem? (i := 47) rfl))) Via.refl e2 H2 (g := (mkF m 11 #[.val (.ref ar), .val (.ref br)] [(.ref ar)])) rfl rfl (hb hby y2_2d8_11)
  refine Wp.back (U' := (T3.setTop (mkF m 14 #[.val (.ref ar), .val (.ref br)] [(.ref tx)]))) st3 ?_
  refine Wp.back (U' := (T3.setTop (mkF m 15 #[.val (.ref ar), .val (.ref br)] [(.ref br), (.ref tx)]))) (fun t k => XS.aloadN X3.here hx rfl (hb hby y2_2d8_14) rfl rfl k) ?_
  obtain ⟨cq4, kq4, q4a, q4b, q4c⟩ := isOf hZ e3 H3
  obtain ⟨_, _, ⟨T4, L4, k4, n4⟩, -, X4, ⟨Lc4, hQ4, l4, y4, z4⟩, st4⟩ := X3.virtualBack hx (y := (⟨"java/lang/String", "equals", "(Ljava/lang/Object;)Z"⟩ : MethodName)) (z := (⟨"java/lang/String", "equals", "(Ljava/lang/Object;)Z"⟩ : MethodName)) hown (mvT hZ (hw _ (List.mem_of_getElem? (i := 74) rfl))) (mvT hZ (hw _ (List.mem_of_getElem? (i := 75) rfl))) (notFace_of_selects (args := #[]) (mvT hZ (hw _ (List.mem_of_getElem? (i := 77) rfl)))) (mvT hZ (hw _ (List.mem_of_getElem? (i := 77) rfl))) (mvT hZ (hw _ (List.mem_of_getElem? (i := 76) rfl))) (by decide) (backOf (W := 0) (rm_eq2_2 l Z a0 hw [] tx br a1 a2 k1 k2 cs v0 v1 w0 w1 h0 n0 Z0 H3 H4 H5 H6 H7 H8 H9 H10 H11 ne_tx_br hcs) hZ (hw _ (List.mem_of_getElem? (i := 78) rfl)) (hw _ (List.mem_of_getElem? (i := 7) rfl)) (by decide) (by decide)) q4a q4c (g := (mkF m 15 #[.val (.ref ar), .val (.ref br)] [(.ref br), (.ref tx)])) rfl (by rw [hml]; rfl) (Steps.refl _) (argsL := [(.ref br)]) (rest := []) (lenOf y2_2pd8_0 rfl) rfl (by show 2 * 0 + _ ≤ _; exact Nat.le_of_eq rfl) (hb hby y2_2d8_15) (fun _ _ => ⟨rfl, e3, (by decide : 0 + 0 ≤ _), (by decide : 0 + 0 ≤ _)⟩)
  dsimp only [Pt.U, Pt.locs, Pt.cells, Pt.slots] at X4 l4 y4 z4 st4 hQ4
  subst l4 y4 z4
  obtain ⟨rfl, N4q, K4⟩ := hQ4
  have f5_0 := Nat.le_trans Z0 K4.1
  have f5_1 := H0.keep K4 nin0
  have f5_2 := Sta_keep0 H1 K4
  have f5_3 := H2.keep K4 nin0
  have f5_4 := H3.keep K4
  have f5_5 := H4.keep K4 nin0
  have f5_6 := H5.keep K4 nin0
  have f5_7 := H6.keep K4 nin0
  have f5_8 := H7.keep K4
  have f5_9 := H8.keep K4 nin0
  have f5_10 := H9.keep K4 nin0
  have f5_11 := H10.keep K4 nin0
  have f5_12 := Sta_keep0 H11 K4
  have f5_13 := (Keep.refl h0 []).trans K4 all0
  have N4 := Fr.app N0 N4q
  refine Wp.back (U' := (T4.setTop (mkF m 18 #[.val (.ref ar), .val (.ref br)] [(.int (f_eq2_2 v0 v1 w0 w1))]))) (fun t k => st4.trans k) ?_
  by_cases c18_6 : (f_eq2_2 v0 v1 w0 w1) = (0 : Int32)
  · refine Wp.back (U' := (T4.setTop (mkF m 26 #[.val (.ref ar), .val (.ref br)] [(.int (0 : Int32))]))) (fun t k => XS.ifYes X4.here hx rfl (pc0 := 18) (pc' := 25) rfl (hb hby y2_2d8_18) rfl ((if0 _ _).trans (teq c18_6).1) (by decide) (by decide) (XT.iconstV X4.here hx rfl (0 : Int32) (hb hby y2_2d8_25) (by decide) k)) ?_
    obtain ⟨fs, hr, hrun, hended, hW, hsame⟩ := X4.leave (v := (some (.int (0 : Int32)))) (fun h => by rw [hret] at h; cases h)
    refine Wp.done (retN X4 hx (t := .boolean) hret (by simp) (hb hby y2_2d8_26) hr) hrun hended ⟨_, _, rfl, ?_, ⟨_, rfl⟩, hW, hsame.mono (by decide) (by decide)⟩
    show Q_is2_2 Z ar br tx w4 a1 k1 a2 k2 cs v0 v1 w0 w1 h0 n0 _ T4.heap _
    exact ⟨(by rw [f_is2_2, if_pos c18_6]), N4, f5_13⟩
  · refine Wp.back (U' := (T4.setTop (mkF m 26 #[.val (.ref ar), .val (.ref br)] [(.int (1 : Int32))]))) (fun t k => XS.ifNo X4.here hx rfl (hb hby y2_2d8_18) rfl ((if0 _ _).trans (feq c18_6).1) (XT.iconstV X4.here hx rfl (1 : Int32) (hb hby y2_2d8_21) (by decide) (XS.goto X4.here hx rfl (pc0 := 22) (pc' := 26) rfl (hb hby y2_2d8_22) (by decide) (by decide) k))) ?_
    obtain ⟨fs, hr, hrun, hended, hW, hsame⟩ := X4.leave (v := (some (.int (1 : Int32)))) (fun h => by rw [hret] at h; cases h)
    refine Wp.done (retN X4 hx (t := .boolean) hret (by simp) (hb hby y2_2d8_26) hr) hrun hended ⟨_, _, rfl, ?_, ⟨_, rfl⟩, hW, hsame.mono (by decide) (by decide)⟩
    show Q_is2_2 Z ar br tx w4 a1 k1 a2 k2 cs v0 v1 w0 w1 h0 n0 _ T4.heap _
    exact ⟨(by rw [f_is2_2, if_neg c18_6]), N4, f5_13⟩
def Q_is_n (Z : State) (ar : Addr) (tx : Addr) (w4 : Addr) (h0 : Heap) (n0 : Nat) (v : Option Value) (h : Heap) (L : List Loc) : Prop := v = some (.int (0 : Int32)) ∧ Fr n0 L ∧ Keep h0 h []
theorem ynd8_0 : decode prog_22_method_3_code 0 = .ok (.aload_n 0, 1) := by decide +kernel
theorem ynd8_1 : decode prog_22_method_3_code 1 = .ok (.getfield 7, 3) := by decide +kernel
theorem ynd8_4 : decode prog_22_method_3_code 4 = .ok (.getstatic 38, 3) := by decide +kernel
theorem ynd8_7 : decode prog_22_method_3_code 7 = .ok (.if_acmp .ne 18, 3) := by decide +kernel
theorem ynd8_10 : decode prog_22_method_3_code 10 = .ok (.aload_n 0, 1) := by decide +kernel
theorem ynd8_11 : decode prog_22_method_3_code 11 = .ok (.getfield 13, 3) := by decide +kernel
theorem ynd8_14 : decode prog_22_method_3_code 14 = .ok (.aload_n 1, 1) := by decide +kernel
theorem ynd8_15 : decode prog_22_method_3_code 15 = .ok (.invokevirtual 41, 3) := by decide +kernel
theorem ynd8_18 : decode prog_22_method_3_code 18 = .ok (.ifCond .eq 7, 3) := by decide +kernel
theorem ynd8_25 : decode prog_22_method_3_code 25 = .ok (.iconst 0, 1) := by decide +kernel
theorem ynd8_26 : decode prog_22_method_3_code 26 = .ok (.ireturn, 1) := by decide +kernel
theorem ynpd8_0 : parseMethodDescriptor "(Ljava/lang/Object;)Z" = some ⟨[(.object "java/lang/Object")], some .boolean⟩ := by decide +kernel
theorem ynpn8 : plainName "com/example/query_to_table/querytotable/sql/Token" = true := by first | (simp [plainName, overriddenIn]; done) | decide +kernel
theorem ynef8 (m : MethodId) (x0 : Addr) : entryFrame m #[(.ref x0), .null] 2 = mkF m 0 #[.val (.ref x0), .val .null] [] := by first | (simp [entryFrame, mkF, argsToLocals, Value.category]; done) | rfl
set_option maxRecDepth 65536 in
set_option maxHeartbeats 40000000 in
theorem rm_is_n (l : Launch) (Z : State) (a0 : Array Value) (hw : ∀ d ∈ tables_1, d.before a0 Z = true) (ws : List Jvm.Cond) (ar : Addr) (tx : Addr) (w4 : Addr) (h0 : Heap) (n0 : Nat) (Z0 : n0 ≤ h0.size) (H0 : Fld Z h0 ar "com/example/query_to_table/querytotable/sql/Token" "kind" "Lcom/example/query_to_table/querytotable/sql/Token$Kind;" (.ref w4)) (H1 : Sta Z h0 "com/example/query_to_table/querytotable/sql/Token$Kind" "SYMBOL" "Lcom/example/query_to_table/querytotable/sql/Token$Kind;" (.ref w4)) (H2 : Fld Z h0 ar "com/example/query_to_table/querytotable/sql/Token" "text" "Ljava/lang/String;" (.ref tx)) (H3 : Exa Z h0 tx "java/lang/String") :
    MetFree l (⟨"com/example/query_to_table/querytotable/sql/Token", "isSymbol", "(Ljava/lang/String;)Z"⟩ : MethodName) (head1 (Jvm.Cond.code (⟨"com/example/query_to_table/querytotable/sql/Token", "isSymbol", "(Ljava/lang/String;)Z"⟩ : MethodName) prog_22_method_3_code 2 (some .boolean) :: ws) ({ frames := 1, cells := 0, slots := 0, locals := 14 } : Room)) (fun a U => a = #[(.ref ar), .null] ∧ Z.Warmed39 U.vm ∧ U.heap = h0) (fun _ _ _ _ _ => True) (fun _ U o U' => ∃ v L, o = .returned v ∧ Q_is_n Z ar tx w4 h0 n0 v U'.heap L ∧ FrameEnd U o U' L ({ frames := 1, cells := 0, slots := 0, locals := 14 } : Room).cells ({ frames := 1, cells := 0, slots := 0, locals := 14 } : Room).slots) := by
  refine MetFree.of_bodySF (plainFor_of_name ynpn8) hisR ?_
  intro p e s m args below meth c s₁ Bd hml0 hP hK
  obtain ⟨rfl, hZ, hh⟩ := hP
  have hx := Bd.exec
  have hby := Bd.bytes
  have hret := Bd.returns
  have hlk := Bd.notSynchronized
  have hml : c.maxLocals = 2 := hml0
  have hown : s.vm.findClass "com/example/query_to_table/querytotable/sql/Token" = some m.cls := findClass_of_methodNamed Bd.named
  have hnm := (name_of_methodNamed Bd.named Bd.method).1
  have X0 : Stand p l e ({ frames := 1, cells := 0, slots := 0, locals := 14 } : Room) s m #[(.ref ar), .null] below meth c s₁ [] 0 0 := Stand.of_body Bd
  have e0 : s₁.heap = h0 := by rw [← hh, Bd.state]; rfl
  have N0 := Fr.nil n0
  show Wp p e below (fun o s₂ => ∃ v L, o = .returned v ∧ Q_is_n Z ar tx w4 h0 n0 v s₂.heap L ∧ FrameEnd s o s₂ L ({ frames := 1, cells := 0, slots := 0, locals := 14 } : Room).cells ({ frames := 1, cells := 0, slots := 0, locals := 14 } : Room).slots) _
  refine Wp.back (U' := (s₁.setTop (mkF m 0 #[.val (.ref ar), .val .null] []))) (fun t k => castTop (ynef8 m ar) k) ?_
  refine Wp.back (U' := (s₁.setTop (mkF m 1 #[.val (.ref ar), .val .null] [(.ref ar)]))) (fun t k => XS.aloadN X0.here hx rfl (hb hby ynd8_0) rfl rfl k) ?_
  obtain ⟨T1, X1, e1, st1⟩ := getF X0 hx hZ hown (host := "") (Or.inl (hw _ (List.mem_of_getElem? (i := 45) rfl))) Via.refl e0 H0 (g := (mkF m 1 #[.val (.ref ar), .val .null] [(.ref ar)])) rfl rfl (hb hby ynd8_1)
  refine Wp.back (U' := (T1.setTop (mkF m 4 #[.val (.ref ar), .val .null] [(.ref w4)]))) st1 ?_
  obtain ⟨T2, X2, e2, st2⟩ := getS2 X1 hx hZ hown (host := "") (Or.inl (hw _ (List.mem_of_getElem? (i := 60) rfl))) Via.refl e1 H1 (g := (mkF m 4 #[.val (.ref ar), .val .null] [(.ref w4)])) rfl (hb hby ynd8_4)
  refine Wp.back (U' := (T2.setTop (mkF m 7 #[.val (.ref ar), .val .null] [(.ref w4), (.ref w4)]))) st2 ?_
  refine Wp.back (U' := (T2.setTop (mkF m 10 #[.val (.ref ar), .val .null] []))) (fun t k => Jvm.RoadKit.acmp (g := (mkF m 7 #[.val (.ref ar), .val .null] [(.ref w4), (.ref w4)])) X2 hx rfl rfl rfl (pc0 := 7) (pc' := 10) (same := true) rfl (hb hby ynd8_7) rfl (decide_eq_true rfl) (by decide) (by decide) k) ?_
  refine Wp.back (U' := (T2.setTop (mkF m 11 #[.val (.ref ar), .val .null] [(.ref ar)]))) (fun t k => XS.aloadN X2.here hx rfl (hb hby ynd8_10) rfl rfl k) ?_
  obtain ⟨T3, X3, e3, st3⟩ := getF X2 hx hZ hown (host := "") (Or.inl (hw _ (List.mem_of_getElem? (i := 47) rfl))) Via.refl e2 H2 (g := (mkF m 11 #[.val (.ref ar), .val .null] [(.ref ar)])) rfl rfl (hb hby ynd8_11)
  refine Wp.back (U' := (T3.setTop (mkF m 14 #[.val (.ref ar), .val .null] [(.ref tx)]))) st3 ?_
  refine Wp.back (U' := (T3.setTop (mkF m 15 #[.val (.ref ar), .val .null] [.null, (.ref tx)]))) (fun t k => XS.aloadN X3.here hx rfl (hb hby ynd8_14) rfl rfl k) ?_
  obtain ⟨cq4, kq4, q4a, q4b, q4c⟩ := isOf hZ e3 H3
  obtain ⟨_, _, ⟨T4, L4, k4, n4⟩, -, X4, ⟨Lc4, hQ4, l4, y4, z4⟩, st4⟩ := X3.virtualBack hx (y := (⟨"java/lang/String", "equals", "(Ljava/lang/Object;)Z"⟩ : MethodName)) (z := (⟨"java/lang/String", "equals", "(Ljava/lang/Object;)Z"⟩ : MethodName)) hown (mvT hZ (hw _ (List.mem_of_getElem? (i := 74) rfl))) (mvT hZ (hw _ (List.mem_of_getElem? (i := 75) rfl))) (notFace_of_selects (args := #[]) (mvT hZ (hw _ (List.mem_of_getElem? (i := 77) rfl)))) (mvT hZ (hw _ (List.mem_of_getElem? (i := 77) rfl))) (mvT hZ (hw _ (List.mem_of_getElem? (i := 76) rfl))) (by decide) (backOf (W := 0) (rm_eq0_n l Z a0 hw [] tx  h0 n0 Z0 ) hZ (hw _ (List.mem_of_getElem? (i := 78) rfl)) (hw _ (List.mem_of_getElem? (i := 7) rfl)) (by decide) (by decide)) q4a q4c (g := (mkF m 15 #[.val (.ref ar), .val .null] [.null, (.ref tx)])) rfl (by rw [hml]; rfl) (Steps.refl _) (argsL := [.null]) (rest := []) (lenOf ynpd8_0 rfl) rfl (by show 2 * 0 + _ ≤ _; exact Nat.le_of_eq rfl) (hb hby ynd8_15) (fun _ _ => ⟨rfl, e3, (by decide : 0 + 0 ≤ _), (by decide : 0 + 0 ≤ _)⟩)
  dsimp only [Pt.U, Pt.locs, Pt.cells, Pt.slots] at X4 l4 y4 z4 st4 hQ4
  subst l4 y4 z4
  obtain ⟨rfl, N4q, K4⟩ := hQ4
  have f5_0 := Nat.le_trans Z0 K4.1
  have f5_1 := H0.keep K4 nin0
  have f5_2 := Sta_keep0 H1 K4
  have f5_3 := H2.keep K4 nin0
  have f5_4 := H3.keep K4
  have f5_5 := (Keep.refl h0 []).trans K4 all0
  have N4 := Fr.app N0 N4q
  refine Wp.back (U' := (T4.setTop (mkF m 18 #[.val (.ref ar), .val .null] [(.int (0 : Int32))]))) (fun t k => st4.trans k) ?_
  refine Wp.back (U' := (T4.setTop (mkF m 26 #[.val (.ref ar), .val .null] [(.int (0 : Int32))]))) (fun t k => XS.ifYes X4.here hx rfl (pc0 := 18) (pc' := 25) rfl (hb hby ynd8_18) rfl ((if0 _ _).trans (teq (by decide)).1) (by decide) (by decide) (XT.iconstV X4.here hx rfl (0 : Int32) (hb hby ynd8_25) (by decide) k)) ?_
  obtain ⟨fs, hr, hrun, hended, hW, hsame⟩ := X4.leave (v := (some (.int (0 : Int32)))) (fun h => by rw [hret] at h; cases h)
  refine Wp.done (retN X4 hx (t := .boolean) hret (by simp) (hb hby ynd8_26) hr) hrun hended ⟨_, _, rfl, ?_, ⟨_, rfl⟩, hW, hsame.mono (by decide) (by decide)⟩
  show Q_is_n Z ar tx w4 h0 n0 _ T4.heap _
  exact ⟨rfl, N4, f5_5⟩
def Q_is_ne (Z : State) (ar : Addr) (br : Addr) (tx : Addr) (w4 : Addr) (a1 : Addr) (a2 : Addr) (cs : Int32) (k1 : ClassId) (k2 : ClassId) (z1 : Int32) (z2 : Int32) (vs1 : List Value) (vs2 : List Value) (dv1 : Value) (dv2 : Value) (h0 : Heap) (n0 : Nat) (v : Option Value) (h : Heap) (L : List Loc) : Prop := v = some (.int (0 : Int32)) ∧ Fr n0 L ∧ Keep h0 h []
theorem yned8_0 : decode prog_22_method_3_code 0 = .ok (.aload_n 0, 1) := by decide +kernel
theorem yned8_1 : decode prog_22_method_3_code 1 = .ok (.getfield 7, 3) := by decide +kernel
theorem yned8_4 : decode prog_22_method_3_code 4 = .ok (.getstatic 38, 3) := by decide +kernel
theorem yned8_7 : decode prog_22_method_3_code 7 = .ok (.if_acmp .ne 18, 3) := by decide +kernel
theorem yned8_10 : decode prog_22_method_3_code 10 = .ok (.aload_n 0, 1) := by decide +kernel
theorem yned8_11 : decode prog_22_method_3_code 11 = .ok (.getfield 13, 3) := by decide +kernel
theorem yned8_14 : decode prog_22_method_3_code 14 = .ok (.aload_n 1, 1) := by decide +kernel
theorem yned8_15 : decode prog_22_method_3_code 15 = .ok (.invokevirtual 41, 3) := by decide +kernel
theorem yned8_18 : decode prog_22_method_3_code 18 = .ok (.ifCond .eq 7, 3) := by decide +kernel
theorem yned8_25 : decode prog_22_method_3_code 25 = .ok (.iconst 0, 1) := by decide +kernel
theorem yned8_26 : decode prog_22_method_3_code 26 = .ok (.ireturn, 1) := by decide +kernel
theorem ynepd8_0 : parseMethodDescriptor "(Ljava/lang/Object;)Z" = some ⟨[(.object "java/lang/Object")], some .boolean⟩ := by decide +kernel
theorem ynepn8 : plainName "com/example/query_to_table/querytotable/sql/Token" = true := by first | (simp [plainName, overriddenIn]; done) | decide +kernel
theorem yneef8 (m : MethodId) (x0 : Addr) (x1 : Addr) : entryFrame m #[(.ref x0), (.ref x1)] 2 = mkF m 0 #[.val (.ref x0), .val (.ref x1)] [] := by first | (simp [entryFrame, mkF, argsToLocals, Value.category]; done) | rfl
set_option maxRecDepth 65536 in
set_option maxHeartbeats 40000000 in
theorem rm_is_ne (l : Launch) (Z : State) (a0 : Array Value) (hw : ∀ d ∈ tables_1, d.before a0 Z = true) (ws : List Jvm.Cond) (ar : Addr) (br : Addr) (tx : Addr) (w4 : Addr) (a1 : Addr) (a2 : Addr) (cs : Int32) (k1 : ClassId) (k2 : ClassId) (z1 : Int32) (z2 : Int32) (vs1 : List Value) (vs2 : List Value) (dv1 : Value) (dv2 : Value) (h0 : Heap) (n0 : Nat) (Z0 : n0 ≤ h0.size) (H0 : Fld Z h0 ar "com/example/query_to_table/querytotable/sql/Token" "kind" "Lcom/example/query_to_table/querytotable/sql/Token$Kind;" (.ref w4)) (H1 : Sta Z h0 "com/example/query_to_table/querytotable/sql/Token$Kind" "SYMBOL" "Lcom/example/query_to_table/querytotable/sql/Token$Kind;" (.ref w4)) (H2 : Fld Z h0 ar "com/example/query_to_table/querytotable/sql/Token" "text" "Ljava/lang/String;" (.ref tx)) (H3 : Exa Z h0 tx "java/lang/String") (H4 : Fld Z h0 tx "java/lang/String" "value" "[B" (.ref a1)) (H5 : Fld Z h0 tx "java/lang/String" "coder" "B" (.int (0 : Int32))) (H6 : Arv Z h0 a1 k1 .byte z1 vs1 dv1) (H7 : Exa Z h0 br "java/lang/String") (H8 : Fld Z h0 br "java/lang/String" "value" "[B" (.ref a2)) (H9 : Fld Z h0 br "java/lang/String" "coder" "B" (.int (0 : Int32))) (H10 : Arv Z h0 a2 k2 .byte z2 vs2 dv2) (H11 : Sta Z h0 "java/lang/String" "COMPACT_STRINGS" "Z" (.int cs)) (ne_tx_br : tx ≠ br) (hz : ¬ z1 = z2) (hcs : ¬ cs = (0 : Int32)) :
    MetFree l (⟨"com/example/query_to_table/querytotable/sql/Token", "isSymbol", "(Ljava/lang/String;)Z"⟩ : MethodName) (head1 (Jvm.Cond.code (⟨"com/example/query_to_table/querytotable/sql/Token", "isSymbol", "(Ljava/lang/String;)Z"⟩ : MethodName) prog_22_method_3_code 2 (some .boolean) :: ws) ({ frames := 2, cells := 0, slots := 0, locals := 28 } : Room)) (fun a U => a = #[(.ref ar), (.ref br)] ∧ Z.Warmed39 U.vm ∧ U.heap = h0) (fun _ _ _ _ _ => True) (fun _ U o U' => ∃ v L, o = .returned v ∧ Q_is_ne Z ar br tx w4 a1 a2 cs k1 k2 z1 z2 vs1 vs2 dv1 dv2 h0 n0 v U'.heap L ∧ FrameEnd U o U' L ({ frames := 2, cells := 0, slots := 0, locals := 28 } : Room).cells ({ frames := 2, cells := 0, slots := 0, locals := 28 } : Room).slots) := by
  refine MetFree.of_bodySF (plainFor_of_name ynepn8) hisR ?_
  intro p e s m args below meth c s₁ Bd hml0 hP hK
  obtain ⟨rfl, hZ, hh⟩ := hP
  have hx := Bd.exec
  have hby := Bd.bytes
  have hret := Bd.returns
  have hlk := Bd.notSynchronized
  have hml : c.maxLocals = 2 := hml0
  have hown : s.vm.findClass "com/example/query_to_table/querytotable/sql/Token" = some m.cls := findClass_of_methodNamed Bd.named
  have hnm := (name_of_methodNamed Bd.named Bd.method).1
  have X0 : Stand p l e ({ frames := 2, cells := 0, slots := 0, locals := 28 } : Room) s m #[(.ref ar), (.ref br)] below meth c s₁ [] 0 0 := Stand.of_body Bd
  have e0 : s₁.heap = h0 := by rw [← hh, Bd.state]; rfl
  have N0 := Fr.nil n0
  show Wp p e below (fun o s₂ => ∃ v L, o = .returned v ∧ Q_is_ne Z ar br tx w4 a1 a2 cs k1 k2 z1 z2 vs1 vs2 dv1 dv2 h0 n0 v s₂.heap L ∧ FrameEnd s o s₂ L ({ frames := 2, cells := 0, slots := 0, locals := 28 } : Room).cells ({ frames := 2, cells := 0, slots := 0, locals := 28 } : Room).slots) _
  refine Wp.back (U' := (s₁.setTop (mkF m 0 #[.val (.ref ar), .val (.ref br)] []))) (fun t k => castTop (yneef8 m ar br) k) ?_
  refine Wp.back (U' := (s₁.setTop (mkF m 1 #[.val (.ref ar), .val (.ref br)] [(.ref ar)]))) (fun t k => XS.aloadN X0.here hx rfl (hb hby yned8_0) rfl rfl k) ?_
  obtain ⟨T1, X1, e1, st1⟩ := getF X0 hx hZ hown (host := "") (Or.inl (hw _ (List.mem_of_getElem? (i := 45) rfl))) Via.refl e0 H0 (g := (mkF m 1 #[.val (.ref ar), .val (.ref br)] [(.ref ar)])) rfl rfl (hb hby yned8_1)
  refine Wp.back (U' := (T1.setTop (mkF m 4 #[.val (.ref ar), .val (.ref br)] [(.ref w4)]))) st1 ?_
  obtain ⟨T2, X2, e2, st2⟩ := getS2 X1 hx hZ hown (host := "") (Or.inl (hw _ (List.mem_of_getElem? (i := 60) rfl))) Via.refl e1 H1 (g := (mkF m 4 #[.val (.ref ar), .val (.ref br)] [(.ref w4)])) rfl (hb hby yned8_4)
  refine Wp.back (U' := (T2.setTop (mkF m 7 #[.val (.ref ar), .val (.ref br)] [(.ref w4), (.ref w4)]))) st2 ?_
  refine Wp.back (U' := (T2.setTop (mkF m 10 #[.val (.ref ar), .val (.ref br)] []))) (fun t k => Jvm.RoadKit.acmp (g := (mkF m 7 #[.val (.ref ar), .val (.ref br)] [(.ref w4), (.ref w4)])) X2 hx rfl rfl rfl (pc0 := 7) (pc' := 10) (same := true) rfl (hb hby yned8_7) rfl (decide_eq_true rfl) (by decide) (by decide) k) ?_
  refine Wp.back (U' := (T2.setTop (mkF m 11 #[.val (.ref ar), .val (.ref br)] [(.ref ar)]))) (fun t k => XS.aloadN X2.here hx rfl (hb hby yned8_10) rfl rfl k) ?_
  obtain ⟨T3, X3, e3, st3⟩ := getF X2 hx hZ hown (host := "") (Or.inl (hw _ (List.mem_of_getElem? (i := 47) rfl))) Via.refl e2 H2 (g := (mkF m 11 #[.val (.ref ar), .val (.ref br)] [(.ref ar)])) rfl rfl (hb hby yned8_11)
  refine Wp.back (U' := (T3.setTop (mkF m 14 #[.val (.ref ar), .val (.ref br)] [(.ref tx)]))) st3 ?_
  refine Wp.back (U' := (T3.setTop (mkF m 15 #[.val (.ref ar), .val (.ref br)] [(.ref br), (.ref tx)]))) (fun t k => XS.aloadN X3.here hx rfl (hb hby yned8_14) rfl rfl k) ?_
  obtain ⟨cq4, kq4, q4a, q4b, q4c⟩ := isOf hZ e3 H3
  obtain ⟨_, _, ⟨T4, L4, k4, n4⟩, -, X4, ⟨Lc4, hQ4, l4, y4, z4⟩, st4⟩ := X3.virtualBack hx (y := (⟨"java/lang/String", "equals", "(Ljava/lang/Object;)Z"⟩ : MethodName)) (z := (⟨"java/lang/String", "equals", "(Ljava/lang/Object;)Z"⟩ : MethodName)) hown (mvT hZ (hw _ (List.mem_of_getElem? (i := 74) rfl))) (mvT hZ (hw _ (List.mem_of_getElem? (i := 75) rfl))) (notFace_of_selects (args := #[]) (mvT hZ (hw _ (List.mem_of_getElem? (i := 77) rfl)))) (mvT hZ (hw _ (List.mem_of_getElem? (i := 77) rfl))) (mvT hZ (hw _ (List.mem_of_getElem? (i := 76) rfl))) (by decide) (backOf (W := 0) (rm_eq_ne l Z a0 hw [] tx br a1 a2 cs k1 k2 z1 z2 vs1 vs2 dv1 dv2 h0 n0 Z0 H3 H4 H5 H6 H7 H8 H9 H10 H11 ne_tx_br hz hcs) hZ (hw _ (List.mem_of_getElem? (i := 78) rfl)) (hw _ (List.mem_of_getElem? (i := 7) rfl)) (by decide) (by decide)) q4a q4c (g := (mkF m 15 #[.val (.ref ar), .val (.ref br)] [(.ref br), (.ref tx)])) rfl (by rw [hml]; rfl) (Steps.refl _) (argsL := [(.ref br)]) (rest := []) (lenOf ynepd8_0 rfl) rfl (by show 2 * 0 + _ ≤ _; exact Nat.le_of_eq rfl) (hb hby yned8_15) (fun _ _ => ⟨rfl, e3, (by decide : 0 + 0 ≤ _), (by decide : 0 + 0 ≤ _)⟩)
  dsimp only [Pt.U, Pt.locs, Pt.cells, Pt.slots] at X4 l4 y4 z4 st4 hQ4
  subst l4 y4 z4
  obtain ⟨rfl, N4q, K4⟩ := hQ4
  have f5_0 := Nat.le_trans Z0 K4.1
  have f5_1 := H0.keep K4 nin0
  have f5_2 := Sta_keep0 H1 K4
  have f5_3 := H2.keep K4 nin0
  have f5_4 := H3.keep K4
  have f5_5 := H4.keep K4 nin0
  have f5_6 := H5.keep K4 nin0
  have f5_7 := H6.keep K4 nin0
  have f5_8 := H7.keep K4
  have f5_9 := H8.keep K4 nin0
  have f5_10 := H9.keep K4 nin0
  have f5_11 := H10.keep K4 nin0
  have f5_12 := Sta_keep0 H11 K4
  have f5_13 := (Keep.refl h0 []).trans K4 all0
  have N4 := Fr.app N0 N4q
  refine Wp.back (U' := (T4.setTop (mkF m 18 #[.val (.ref ar), .val (.ref br)] [(.int (0 : Int32))]))) (fun t k => st4.trans k) ?_
  refine Wp.back (U' := (T4.setTop (mkF m 26 #[.val (.ref ar), .val (.ref br)] [(.int (0 : Int32))]))) (fun t k => XS.ifYes X4.here hx rfl (pc0 := 18) (pc' := 25) rfl (hb hby yned8_18) rfl ((if0 _ _).trans (teq (by decide)).1) (by decide) (by decide) (XT.iconstV X4.here hx rfl (0 : Int32) (hb hby yned8_25) (by decide) k)) ?_
  obtain ⟨fs, hr, hrun, hended, hW, hsame⟩ := X4.leave (v := (some (.int (0 : Int32)))) (fun h => by rw [hret] at h; cases h)
  refine Wp.done (retN X4 hx (t := .boolean) hret (by simp) (hb hby yned8_26) hr) hrun hended ⟨_, _, rfl, ?_, ⟨_, rfl⟩, hW, hsame.mono (by decide) (by decide)⟩
  show Q_is_ne Z ar br tx w4 a1 a2 cs k1 k2 z1 z2 vs1 vs2 dv1 dv2 h0 n0 _ T4.heap _
  exact ⟨rfl, N4, f5_13⟩
theorem own_c (x : Int32) (h : 0 ≤ x.toInt ∧ x.toInt ≤ 255) : nar .char x = x := by
  apply Int32.toInt_inj.mp
  have q := c_i2c x
  show (x.toUInt32.toUInt16.toUInt32.toInt32).toInt = _
  omega
theorem own_255 {x : Int32} (h : 0 ≤ x.toInt ∧ x.toInt ≤ 255) : ¬ (255 : Int32) < nar .char x := by
  rw [own_c x h, Int32.lt_iff_toInt_lt]
  have e : (255 : Int32).toInt = 255 := by decide
  omega
theorem own_inj {x y : Int32} (hx : 0 ≤ x.toInt ∧ x.toInt ≤ 255) (hy : 0 ≤ y.toInt ∧ y.toInt ≤ 255) (h : (nar .byte ((nar .char x)).toInt8.toInt32) = (nar .byte ((nar .char y)).toInt8.toInt32)) : x = y := by
  rw [own_c x hx, own_c y hy] at h
  apply Int32.toInt_inj.mp
  have q1 := c_i2b x
  have q2 := c_i2b y
  have r1 := c_i2b x.toInt8.toInt32
  have r2 := c_i2b y.toInt8.toInt32
  have h' : (x.toInt8.toInt32).toInt8.toInt32 = (y.toInt8.toInt32).toInt8.toInt32 := h
  rw [h'] at r1
  omega
theorem own_m (x : Int32) : 0 ≤ ((x &&& (255 : Int32))).toUInt32.toUInt16.toUInt32.toInt32.toInt ∧ ((x &&& (255 : Int32))).toUInt32.toUInt16.toUInt32.toInt32.toInt ≤ 255 := by
  rw [i2c_mask]
  have h1 := c_mask x 255 8 (by decide) (by decide)
  omega
theorem own_i1 (v w : Int32) : (v = w → f_is1_1 v w = 1) ∧ (¬ v = w → f_is1_1 v w = 0) := by
  unfold f_is1_1 f_eq1_1 f_leq1_1
  constructor <;> intro h <;> simp [h]
theorem own_i2 (v0 v1 w0 w1 : Int32) : (v0 = w0 → v1 = w1 → f_is2_2 v0 v1 w0 w1 = 1) ∧ (¬ v0 = w0 → f_is2_2 v0 v1 w0 w1 = 0) ∧ (¬ v1 = w1 → f_is2_2 v0 v1 w0 w1 = 0) := by
  unfold f_is2_2 f_eq2_2 f_leq2_2
  refine ⟨fun h1 h2 => ?_, fun h => ?_, fun h => ?_⟩
  · simp [h1, h2]
  · simp [h]
  · by_cases q : v0 = w0 <;> simp [h, q]
theorem own_r3 (x : Int32) : ((x &&& (3 : Int32)) % (3 : Int32)) = (0 : Int32) ∨ ((x &&& (3 : Int32)) % (3 : Int32)) = (1 : Int32) ∨ ((x &&& (3 : Int32)) % (3 : Int32)) = (2 : Int32) := by
  have h1 := c_mask x 3 2 (by decide) (by decide)
  have h2 := (c_irem (x &&& 3) 3 3 (by decide)).1 (by omega)
  have e0 : (0 : Int32).toInt = 0 := by decide
  have e1 : (1 : Int32).toInt = 1 := by decide
  have e2 : (2 : Int32).toInt = 2 := by decide
  simp only [← Int32.toInt_inj, e0, e1, e2]
  omega
theorem own_txnpd0_0 : parseMethodDescriptor "(I)Lcom/example/query_to_table/querytotable/sql/Token$Kind;" = some ⟨[.int], some (.object "com/example/query_to_table/querytotable/sql/Token$Kind")⟩ := by decide +kernel
theorem own_txnpd0_1 : parseMethodDescriptor "(Lcom/example/query_to_table/querytotable/sql/Token$Kind;Ljava/lang/String;III)V" = some ⟨[(.object "com/example/query_to_table/querytotable/sql/Token$Kind"), (.object "java/lang/String"), .int, .int, .int], none⟩ := by decide +kernel
theorem own_txnpd0_2 : parseMethodDescriptor "(Ljava/lang/String;)Z" = some ⟨[(.object "java/lang/String")], some .boolean⟩ := by decide +kernel
set_option maxRecDepth 65536 in
set_option maxHeartbeats 40000000 in
theorem own_txn {p : Program} {l : Launch} {e : Env} {s : State} {m : MethodId} {args : Array Value} {below : List Frame} {meth : Method} {c : Code} {T0 : State} {locs : List Loc} {Z : State} {a0 : Array Value} {hA : Heap} {n0 : Nat} {vm0 : Vm} {kk : Nat} (p0 p1 p2 p3 p4 p5 kx lt ls t0 t1 s0 s1 : Int32) (u0 u1 u2 u3 u4 u5 : Addr) (cs : Int32) (tx : Addr) 
    (hx : p.tables.exec = Jvm.exec) (hw : ∀ d ∈ tables_1, d.before a0 Z = true) (hby : c.code = code) (hml : c.maxLocals = 18) (hret : meth.sig.returnType = ret) (hlk : meth.locks = false) (hZ : Z.Warmed39 (s.setVm vm0).vm) (hown : (s.setVm vm0).vm.findClass "com/example/query_to_table/querytotable/sql/TokenIsSymbolPinLaw" = some m.cls) (X0 : Stand p l e room_1 (s.setVm vm0) m args below meth c T0 locs 12 64) (e0 : T0.heap = hA) (N0 : Fr n0 locs) (Z0 : n0 ≤ hA.size) (hS0 : s.Since vm0 kk) (hk0 : kk ≤ hA.size) (SK0 : Sta Z hA "com/example/query_to_table/querytotable/sql/Token$Kind" "WORD" "Lcom/example/query_to_table/querytotable/sql/Token$Kind;" (.ref u0)) (SK1 : Sta Z hA "com/example/query_to_table/querytotable/sql/Token$Kind" "QUOTED_NAME" "Lcom/example/query_to_table/querytotable/sql/Token$Kind;" (.ref u1)) (SK2 : Sta Z hA "com/example/query_to_table/querytotable/sql/Token$Kind" "STRING" "Lcom/example/query_to_table/querytotable/sql/Token$Kind;" (.ref u2)) (SK3 : Sta Z hA "com/example/query_to_table/querytotable/sql/Token$Kind" "NUMBER" "Lcom/example/query_to_table/querytotable/sql/Token$Kind;" (.ref u3)) (SK4 : Sta Z hA "com/example/query_to_table/querytotable/sql/Token$Kind" "SYMBOL" "Lcom/example/query_to_table/querytotable/sql/Token$Kind;" (.ref u4)) (SK5 : Sta Z hA "com/example/query_to_table/querytotable/sql/Token$Kind" "UNCLOSED" "Lcom/example/query_to_table/querytotable/sql/Token$Kind;" (.ref u5)) (PC : Sta Z hA "java/lang/String" "COMPACT_STRINGS" "Z" (.int cs)) (hcs : ¬ cs = (0 : Int32)) (nu0 : u0 ≠ u4) (nu1 : u1 ≠ u4) (nu2 : u2 ≠ u4) (nu3 : u3 ≠ u4) (nu5 : u5 ≠ u4) (hk4 : ¬ kx = (4 : Int32)) :
    Wp p e below (fun o s₂ => ∃ v L, o = .returned v ∧ QL n0 v s₂.heap L ∧ ReturnedEndW s o s₂ L 24 1152) (T0.setTop (mkF m 137 #[.val (.int p0), .val (.int p1), .val (.int p2), .val (.int p3), .val (.int p4), .val (.int p5), .val (.int kx), .val (.int lt), .val (.int ls), .val (.int t0), .val (.int t1), .val (.int s0), .val (.int s1), .val (.int (1 : Int32)), .val (.ref tx), .val .null, .unset, .unset] [])) := by
  have hEL : EW Z a0 consts_1 := own_EW hw
  have wS := own_wS hw
  obtain ⟨T1, h1, X1, e1, E1, A1, D1, -, st1⟩ := newO X0 hx hZ hown (hw _ (List.mem_of_getElem? (i := 27) rfl)) (hw _ (List.mem_of_getElem? (i := 28) rfl)) (hw _ (List.mem_of_getElem? (i := 29) rfl)) e0 (g := (mkF m 137 #[.val (.int p0), .val (.int p1), .val (.int p2), .val (.int p3), .val (.int p4), .val (.int p5), .val (.int kx), .val (.int lt), .val (.int ls), .val (.int t0), .val (.int t1), .val (.int s0), .val (.int s1), .val (.int (1 : Int32)), .val (.ref tx), .val .null, .unset, .unset] [])) rfl (hb hby at_137) (by decide) (by decide)
  obtain ⟨b1, g1⟩ : ∃ z, z = hA.size := ⟨_, rfl⟩
  rw [← g1] at A1 D1 st1
  have g_b1 : n0 ≤ b1 := Nat.le_trans Z0 (Nat.le_of_eq g1.symm)
  have f2_0 := Nat.le_trans Z0 E1.1
  have f2_1 := SK0.ext E1
  have f2_2 := SK1.ext E1
  have f2_3 := SK2.ext E1
  have f2_4 := SK3.ext E1
  have f2_5 := SK4.ext E1
  have f2_6 := SK5.ext E1
  have f2_7 := PC.ext E1
  have f2_8 := Nat.le_trans hk0 E1.1
  have F1_46 : Fld Z h1 b1 "com/example/query_to_table/querytotable/sql/Token" "kind" "Lcom/example/query_to_table/querytotable/sql/Token$Kind;" .null := D1 (Or.inr (hw _ (List.mem_of_getElem? (i := 46) rfl))) (ty := (.object "com/example/query_to_table/querytotable/sql/Token$Kind")) (by decide)
  have F1_48 : Fld Z h1 b1 "com/example/query_to_table/querytotable/sql/Token" "text" "Ljava/lang/String;" .null := D1 (Or.inr (hw _ (List.mem_of_getElem? (i := 48) rfl))) (ty := (.object "java/lang/String")) (by decide)
  have F1_50 : Fld Z h1 b1 "com/example/query_to_table/querytotable/sql/Token" "line" "I" (.int (0 : Int32)) := D1 (Or.inr (hw _ (List.mem_of_getElem? (i := 50) rfl))) (ty := .int) (by decide)
  have F1_52 : Fld Z h1 b1 "com/example/query_to_table/querytotable/sql/Token" "start" "I" (.int (0 : Int32)) := D1 (Or.inr (hw _ (List.mem_of_getElem? (i := 52) rfl))) (ty := .int) (by decide)
  have F1_54 : Fld Z h1 b1 "com/example/query_to_table/querytotable/sql/Token" "end" "I" (.int (0 : Int32)) := D1 (Or.inr (hw _ (List.mem_of_getElem? (i := 54) rfl))) (ty := .int) (by decide)
  refine Wp.back (U' := (T1.setTop (mkF m 140 #[.val (.int p0), .val (.int p1), .val (.int p2), .val (.int p3), .val (.int p4), .val (.int p5), .val (.int kx), .val (.int lt), .val (.int ls), .val (.int t0), .val (.int t1), .val (.int s0), .val (.int s1), .val (.int (1 : Int32)), .val (.ref tx), .val .null, .unset, .unset] [(.ref b1)]))) st1 ?_
  refine Wp.back (U' := (T1.setTop (mkF m 143 #[.val (.int p0), .val (.int p1), .val (.int p2), .val (.int p3), .val (.int p4), .val (.int p5), .val (.int kx), .val (.int lt), .val (.int ls), .val (.int t0), .val (.int t1), .val (.int s0), .val (.int s1), .val (.int (1 : Int32)), .val (.ref tx), .val .null, .unset, .unset] [(.int kx), (.ref b1), (.ref b1)]))) (fun t k => XS.dup X1.here hx rfl (hb hby at_140) rfl rfl (XS.iload X1.here hx rfl (hb hby at_141) rfl k)) ?_
  obtain ⟨_, _, ⟨T3, L3, k3, n3⟩, -, X3, ⟨Lc3, hQ3, l3, y3, z3⟩, st3⟩ := Jvm.LawKit.callS X1 hx (y := (⟨"com/example/query_to_table/querytotable/sql/TokenIsSymbolPinLaw", "kindOf", "(I)Lcom/example/query_to_table/querytotable/sql/Token$Kind;"⟩ : MethodName)) hown (mvT hZ (hw _ (List.mem_of_getElem? (i := 30) rfl))) (mvT hZ (hw _ (List.mem_of_getElem? (i := 31) rfl))) (mvT hZ (hw _ (List.mem_of_getElem? (i := 3) rfl))) (mvT hZ (hw _ (List.mem_of_getElem? (i := 32) rfl))) (by decide) (backOf (W := 2) (rm_kn l Z a0 hw [] kx u0 u1 u2 u3 u4 u5 h1 n0 f2_0 f2_1 f2_2 f2_3 f2_4 f2_6 nu0 nu1 nu2 nu3 nu5 hk4) hZ (hw _ (List.mem_of_getElem? (i := 32) rfl)) (hw _ (List.mem_of_getElem? (i := 3) rfl)) (by decide) (by decide)) (g := (mkF m 143 #[.val (.int p0), .val (.int p1), .val (.int p2), .val (.int p3), .val (.int p4), .val (.int p5), .val (.int kx), .val (.int lt), .val (.int ls), .val (.int t0), .val (.int t1), .val (.int s0), .val (.int s1), .val (.int (1 : Int32)), .val (.ref tx), .val .null, .unset, .unset] [(.int kx), (.ref b1), (.ref b1)])) rfl (by rw [hml]; rfl) (argsL := [(.int kx)]) (rest := [(.ref b1), (.ref b1)]) (lenOf own_txnpd0_0 rfl) rfl (by show 2 * 0 + _ ≤ _; exact Nat.le_of_eq rfl) (hb hby at_143) (fun _ _ => ⟨rfl, e1, (by decide : 13 + 0 ≤ _), (by decide : 69 + 0 ≤ _)⟩)
  dsimp only [Pt.U, Pt.locs, Pt.cells, Pt.slots] at X3 l3 y3 z3 st3 hQ3
  subst l3 y3 z3
  obtain ⟨r3, rfl, nr3, N3q, K3⟩ := hQ3
  have f4_0 := Nat.le_trans f2_0 K3.1
  have f4_1 := Sta_keep0 f2_1 K3
  have f4_2 := Sta_keep0 f2_2 K3
  have f4_3 := Sta_keep0 f2_3 K3
  have f4_4 := Sta_keep0 f2_4 K3
  have f4_5 := Sta_keep0 f2_5 K3
  have f4_6 := Sta_keep0 f2_6 K3
  have f4_7 := Sta_keep0 f2_7 K3
  have f4_8 := Nat.le_trans f2_8 K3.1
  have f4_9 := A1.keep K3
  have f4_10 := F1_46.keep K3 nin0
  have f4_11 := F1_48.keep K3 nin0
  have f4_12 := F1_50.keep K3 nin0
  have f4_13 := F1_52.keep K3 nin0
  have f4_14 := F1_54.keep K3 nin0
  have N3 := Fr.app N0 N3q
  refine Wp.back (U' := (T3.setTop (mkF m 146 #[.val (.int p0), .val (.int p1), .val (.int p2), .val (.int p3), .val (.int p4), .val (.int p5), .val (.int kx), .val (.int lt), .val (.int ls), .val (.int t0), .val (.int t1), .val (.int s0), .val (.int s1), .val (.int (1 : Int32)), .val (.ref tx), .val .null, .unset, .unset] [(.ref r3), (.ref b1), (.ref b1)]))) st3 ?_
  refine Wp.back (U' := (T3.setTop (mkF m 151 #[.val (.int p0), .val (.int p1), .val (.int p2), .val (.int p3), .val (.int p4), .val (.int p5), .val (.int kx), .val (.int lt), .val (.int ls), .val (.int t0), .val (.int t1), .val (.int s0), .val (.int s1), .val (.int (1 : Int32)), .val (.ref tx), .val .null, .unset, .unset] [(.int p3), (.int p2), (.int p1), (.ref tx), (.ref r3), (.ref b1), (.ref b1)]))) (fun t k => XS.aload X3.here hx rfl (hb hby at_146) rfl rfl (XS.iloadN X3.here hx rfl (hb hby at_148) rfl (XS.iloadN X3.here hx rfl (hb hby at_149) rfl (XS.iloadN X3.here hx rfl (hb hby at_150) rfl k)))) ?_
  obtain ⟨_, _, ⟨T5, L5, k5, n5⟩, -, X5, ⟨Lc5, hQ5, l5, y5, z5⟩, st5⟩ := X3.specialBack hx (y := (⟨"com/example/query_to_table/querytotable/sql/Token", "<init>", "(Lcom/example/query_to_table/querytotable/sql/Token$Kind;Ljava/lang/String;III)V"⟩ : MethodName)) rfl hown (mvT hZ (hw _ (List.mem_of_getElem? (i := 36) rfl))) (mvT hZ (hw _ (List.mem_of_getElem? (i := 37) rfl))) (mvT hZ (hw _ (List.mem_of_getElem? (i := 38) rfl))) (by decide) (backOf (W := 1) (rm_ti l Z a0 hw [] b1 r3 tx p1 p2 p3  T3.heap n0 f4_0 f4_9 f4_10 f4_11 f4_12 f4_13 f4_14 g_b1) hZ (hw _ (List.mem_of_getElem? (i := 38) rfl)) (hw _ (List.mem_of_getElem? (i := 29) rfl)) (by decide) (by decide)) (g := (mkF m 151 #[.val (.int p0), .val (.int p1), .val (.int p2), .val (.int p3), .val (.int p4), .val (.int p5), .val (.int kx), .val (.int lt), .val (.int ls), .val (.int t0), .val (.int t1), .val (.int s0), .val (.int s1), .val (.int (1 : Int32)), .val (.ref tx), .val .null, .unset, .unset] [(.int p3), (.int p2), (.int p1), (.ref tx), (.ref r3), (.ref b1), (.ref b1)])) rfl (by rw [hml]; rfl) (Steps.refl _) (a := b1) (argsL := [(.ref r3), (.ref tx), (.int p1), (.int p2), (.int p3)]) (rest := [(.ref b1)]) (lenOf own_txnpd0_1 rfl) rfl (by show 2 * 0 + _ ≤ _; exact Nat.le_of_eq rfl) (hb hby at_151) (fun _ _ => ⟨rfl, rfl, (by decide : 13 + 0 ≤ _), (by decide : 69 + 0 ≤ _)⟩)
  dsimp only [Pt.U, Pt.locs, Pt.cells, Pt.slots] at X5 l5 y5 z5 st5 hQ5
  subst l5 y5 z5
  obtain ⟨rfl, N5q, K5, o5_0, o5_1, o5_2⟩ := hQ5
  have f6_0 := Nat.le_trans f4_0 K5.1
  have f6_1 := Sta_keep f4_1 K5 (allS (Exa_ns f4_9) all0)
  have f6_2 := Sta_keep f4_2 K5 (allS (Exa_ns f4_9) all0)
  have f6_3 := Sta_keep f4_3 K5 (allS (Exa_ns f4_9) all0)
  have f6_4 := Sta_keep f4_4 K5 (allS (Exa_ns f4_9) all0)
  have f6_5 := Sta_keep f4_5 K5 (allS (Exa_ns f4_9) all0)
  have f6_6 := Sta_keep f4_6 K5 (allS (Exa_ns f4_9) all0)
  have f6_7 := Sta_keep f4_7 K5 (allS (Exa_ns f4_9) all0)
  have f6_8 := Nat.le_trans f4_8 K5.1
  have f6_9 := f4_9.keep K5
  have N5 := Fr.app N3 N5q
  refine Wp.back (U' := (T5.setTop (mkF m 154 #[.val (.int p0), .val (.int p1), .val (.int p2), .val (.int p3), .val (.int p4), .val (.int p5), .val (.int kx), .val (.int lt), .val (.int ls), .val (.int t0), .val (.int t1), .val (.int s0), .val (.int s1), .val (.int (1 : Int32)), .val (.ref tx), .val .null, .unset, .unset] [(.ref b1)]))) (fun t k => st5.trans k) ?_
  refine Wp.back (U' := (T5.setTop (mkF m 211 #[.val (.int p0), .val (.int p1), .val (.int p2), .val (.int p3), .val (.int p4), .val (.int p5), .val (.int kx), .val (.int lt), .val (.int ls), .val (.int t0), .val (.int t1), .val (.int s0), .val (.int s1), .val (.int (1 : Int32)), .val (.ref tx), .val .null, .val (.ref b1), .val (.int (0 : Int32))] [.null, (.ref b1)]))) (fun t k => XS.astore X5.here hx rfl (hb hby at_154) rfl rfl (l' := #[.val (.int p0), .val (.int p1), .val (.int p2), .val (.int p3), .val (.int p4), .val (.int p5), .val (.int kx), .val (.int lt), .val (.int ls), .val (.int t0), .val (.int t1), .val (.int s0), .val (.int s1), .val (.int (1 : Int32)), .val (.ref tx), .val .null, .val (.ref b1), .unset]) rfl (XS.iload X5.here hx rfl (hb hby at_156) rfl (XS.ifYes X5.here hx rfl (pc0 := 158) (pc' := 204) rfl (hb hby at_158) rfl ((if0 _ _).trans (feq (by decide)).2) (by decide) (by decide) (XT.iconstV X5.here hx rfl (0 : Int32) (hb hby at_204) (by decide) (XS.istore X5.here hx rfl (hb hby at_205) rfl (l' := #[.val (.int p0), .val (.int p1), .val (.int p2), .val (.int p3), .val (.int p4), .val (.int p5), .val (.int kx), .val (.int lt), .val (.int ls), .val (.int t0), .val (.int t1), .val (.int s0), .val (.int s1), .val (.int (1 : Int32)), .val (.ref tx), .val .null, .val (.ref b1), .val (.int (0 : Int32))]) rfl (XS.aload X5.here hx rfl (hb hby at_207) rfl rfl (XS.aload X5.here hx rfl (hb hby at_209) rfl rfl k))))))) ?_
  obtain ⟨cq7, kq7, q7a, q7b, q7c⟩ := isOf hZ rfl o5_0
  obtain ⟨_, _, ⟨T7, L7, k7, n7⟩, -, X7, ⟨Lc7, hQ7, l7, y7, z7⟩, st7⟩ := X5.virtualBack hx (y := (⟨"com/example/query_to_table/querytotable/sql/Token", "isSymbol", "(Ljava/lang/String;)Z"⟩ : MethodName)) (z := (⟨"com/example/query_to_table/querytotable/sql/Token", "isSymbol", "(Ljava/lang/String;)Z"⟩ : MethodName)) hown (mvT hZ (hw _ (List.mem_of_getElem? (i := 55) rfl))) (mvT hZ (hw _ (List.mem_of_getElem? (i := 56) rfl))) (notFace_of_selects (args := #[]) (mvT hZ (hw _ (List.mem_of_getElem? (i := 58) rfl)))) (mvT hZ (hw _ (List.mem_of_getElem? (i := 58) rfl))) (mvT hZ (hw _ (List.mem_of_getElem? (i := 57) rfl))) (by decide) (backOf (W := 0) (rm_isxn l Z a0 hw [] b1 r3 u4 T5.heap n0 f6_0 o5_1 f6_5 nr3) hZ (hw _ (List.mem_of_getElem? (i := 59) rfl)) (hw _ (List.mem_of_getElem? (i := 29) rfl)) (by decide) (by decide)) q7a q7c (g := (mkF m 211 #[.val (.int p0), .val (.int p1), .val (.int p2), .val (.int p3), .val (.int p4), .val (.int p5), .val (.int kx), .val (.int lt), .val (.int ls), .val (.int t0), .val (.int t1), .val (.int s0), .val (.int s1), .val (.int (1 : Int32)), .val (.ref tx), .val .null, .val (.ref b1), .val (.int (0 : Int32))] [.null, (.ref b1)])) rfl (by rw [hml]; rfl) (Steps.refl _) (argsL := [.null]) (rest := []) (lenOf own_txnpd0_2 rfl) rfl (by show 2 * 0 + _ ≤ _; exact Nat.le_of_eq rfl) (hb hby at_211) (fun _ _ => ⟨rfl, rfl, (by decide : 13 + 0 ≤ _), (by decide : 69 + 0 ≤ _)⟩)
  dsimp only [Pt.U, Pt.locs, Pt.cells, Pt.slots] at X7 l7 y7 z7 st7 hQ7
  subst l7 y7 z7
  obtain ⟨rfl, N7q, K7⟩ := hQ7
  have f8_0 := Nat.le_trans f6_0 K7.1
  have f8_1 := Sta_keep0 f6_1 K7
  have f8_2 := Sta_keep0 f6_2 K7
  have f8_3 := Sta_keep0 f6_3 K7
  have f8_4 := Sta_keep0 f6_4 K7
  have f8_5 := Sta_keep0 f6_5 K7
  have f8_6 := Sta_keep0 f6_6 K7
  have f8_7 := Sta_keep0 f6_7 K7
  have f8_8 := Nat.le_trans f6_8 K7.1
  have f8_9 := o5_0.keep K7
  have f8_10 := o5_1.keep K7 nin0
  have f8_11 := o5_2.keep K7 nin0
  have N7 := Fr.app N5 N7q
  refine Wp.back (U' := (T7.setTop (mkF m 214 #[.val (.int p0), .val (.int p1), .val (.int p2), .val (.int p3), .val (.int p4), .val (.int p5), .val (.int kx), .val (.int lt), .val (.int ls), .val (.int t0), .val (.int t1), .val (.int s0), .val (.int s1), .val (.int (1 : Int32)), .val (.ref tx), .val .null, .val (.ref b1), .val (.int (0 : Int32))] [(.int (0 : Int32))]))) (fun t k => st7.trans k) ?_
  refine Wp.back (U' := (T7.setTop (mkF m 224 #[.val (.int p0), .val (.int p1), .val (.int p2), .val (.int p3), .val (.int p4), .val (.int p5), .val (.int kx), .val (.int lt), .val (.int ls), .val (.int t0), .val (.int t1), .val (.int s0), .val (.int s1), .val (.int (1 : Int32)), .val (.ref tx), .val .null, .val (.ref b1), .val (.int (0 : Int32))] [(.int (1 : Int32))]))) (fun t k => XS.iload X7.here hx rfl (hb hby at_214) rfl (XS.icmpNo X7.here hx rfl (hb hby at_216) rfl (teq (by decide)).2 (XT.iconstV X7.here hx rfl (1 : Int32) (hb hby at_219) (by decide) (XS.goto X7.here hx rfl (pc0 := 220) (pc' := 224) rfl (hb hby at_220) (by decide) (by decide) k)))) ?_
  obtain ⟨fs, hr, hrun, hended, hend⟩ := X7.leaveW hS0 f8_8 (v := (some (.int (1 : Int32)))) (fun h => by rw [hret] at h; cases h)
  refine Wp.done (retN X7 hx (t := .boolean) hret (by simp) (hb hby at_224) hr) hrun hended ⟨_, _, rfl, ?_, hend.1, hend.2.1, hend.2.2.1, hend.2.2.2.mono (by decide) (by decide)⟩
  show QL n0 _ T7.heap _
  exact ⟨rfl, N7⟩
theorem own_txrpd0_0 : parseMethodDescriptor "(I)Lcom/example/query_to_table/querytotable/sql/Token$Kind;" = some ⟨[.int], some (.object "com/example/query_to_table/querytotable/sql/Token$Kind")⟩ := by decide +kernel
theorem own_txrpd0_1 : parseMethodDescriptor "(Lcom/example/query_to_table/querytotable/sql/Token$Kind;Ljava/lang/String;III)V" = some ⟨[(.object "com/example/query_to_table/querytotable/sql/Token$Kind"), (.object "java/lang/String"), .int, .int, .int], none⟩ := by decide +kernel
theorem own_txrpd0_2 : parseMethodDescriptor "(Ljava/lang/String;)Z" = some ⟨[(.object "java/lang/String")], some .boolean⟩ := by decide +kernel
set_option maxRecDepth 65536 in
set_option maxHeartbeats 40000000 in
theorem own_txr {p : Program} {l : Launch} {e : Env} {s : State} {m : MethodId} {args : Array Value} {below : List Frame} {meth : Method} {c : Code} {T0 : State} {locs : List Loc} {Z : State} {a0 : Array Value} {hA : Heap} {n0 : Nat} {vm0 : Vm} {kk : Nat} (p0 p1 p2 p3 p4 p5 kx lt ls t0 t1 s0 s1 : Int32) (u0 u1 u2 u3 u4 u5 : Addr) (cs : Int32) (tx br : Addr) 
    (hx : p.tables.exec = Jvm.exec) (hw : ∀ d ∈ tables_1, d.before a0 Z = true) (hby : c.code = code) (hml : c.maxLocals = 18) (hret : meth.sig.returnType = ret) (hlk : meth.locks = false) (hZ : Z.Warmed39 (s.setVm vm0).vm) (hown : (s.setVm vm0).vm.findClass "com/example/query_to_table/querytotable/sql/TokenIsSymbolPinLaw" = some m.cls) (X0 : Stand p l e room_1 (s.setVm vm0) m args below meth c T0 locs 12 64) (e0 : T0.heap = hA) (N0 : Fr n0 locs) (Z0 : n0 ≤ hA.size) (hS0 : s.Since vm0 kk) (hk0 : kk ≤ hA.size) (SK0 : Sta Z hA "com/example/query_to_table/querytotable/sql/Token$Kind" "WORD" "Lcom/example/query_to_table/querytotable/sql/Token$Kind;" (.ref u0)) (SK1 : Sta Z hA "com/example/query_to_table/querytotable/sql/Token$Kind" "QUOTED_NAME" "Lcom/example/query_to_table/querytotable/sql/Token$Kind;" (.ref u1)) (SK2 : Sta Z hA "com/example/query_to_table/querytotable/sql/Token$Kind" "STRING" "Lcom/example/query_to_table/querytotable/sql/Token$Kind;" (.ref u2)) (SK3 : Sta Z hA "com/example/query_to_table/querytotable/sql/Token$Kind" "NUMBER" "Lcom/example/query_to_table/querytotable/sql/Token$Kind;" (.ref u3)) (SK4 : Sta Z hA "com/example/query_to_table/querytotable/sql/Token$Kind" "SYMBOL" "Lcom/example/query_to_table/querytotable/sql/Token$Kind;" (.ref u4)) (SK5 : Sta Z hA "com/example/query_to_table/querytotable/sql/Token$Kind" "UNCLOSED" "Lcom/example/query_to_table/querytotable/sql/Token$Kind;" (.ref u5)) (PC : Sta Z hA "java/lang/String" "COMPACT_STRINGS" "Z" (.int cs)) (hcs : ¬ cs = (0 : Int32)) (nu0 : u0 ≠ u4) (nu1 : u1 ≠ u4) (nu2 : u2 ≠ u4) (nu3 : u3 ≠ u4) (nu5 : u5 ≠ u4) (hk4 : ¬ kx = (4 : Int32)) :
    Wp p e below (fun o s₂ => ∃ v L, o = .returned v ∧ QL n0 v s₂.heap L ∧ ReturnedEndW s o s₂ L 24 1152) (T0.setTop (mkF m 137 #[.val (.int p0), .val (.int p1), .val (.int p2), .val (.int p3), .val (.int p4), .val (.int p5), .val (.int kx), .val (.int lt), .val (.int ls), .val (.int t0), .val (.int t1), .val (.int s0), .val (.int s1), .val (.int (0 : Int32)), .val (.ref tx), .val (.ref br), .unset, .unset] [])) := by
  have hEL : EW Z a0 consts_1 := own_EW hw
  have wS := own_wS hw
  obtain ⟨T1, h1, X1, e1, E1, A1, D1, -, st1⟩ := newO X0 hx hZ hown (hw _ (List.mem_of_getElem? (i := 27) rfl)) (hw _ (List.mem_of_getElem? (i := 28) rfl)) (hw _ (List.mem_of_getElem? (i := 29) rfl)) e0 (g := (mkF m 137 #[.val (.int p0), .val (.int p1), .val (.int p2), .val (.int p3), .val (.int p4), .val (.int p5), .val (.int kx), .val (.int lt), .val (.int ls), .val (.int t0), .val (.int t1), .val (.int s0), .val (.int s1), .val (.int (0 : Int32)), .val (.ref tx), .val (.ref br), .unset, .unset] [])) rfl (hb hby at_137) (by decide) (by decide)
  obtain ⟨b1, g1⟩ : ∃ z, z = hA.size := ⟨_, rfl⟩
  rw [← g1] at A1 D1 st1
  have g_b1 : n0 ≤ b1 := Nat.le_trans Z0 (Nat.le_of_eq g1.symm)
  have f2_0 := Nat.le_trans Z0 E1.1
  have f2_1 := SK0.ext E1
  have f2_2 := SK1.ext E1
  have f2_3 := SK2.ext E1
  have f2_4 := SK3.ext E1
  have f2_5 := SK4.ext E1
  have f2_6 := SK5.ext E1
  have f2_7 := PC.ext E1
  have f2_8 := Nat.le_trans hk0 E1.1
  have F1_46 : Fld Z h1 b1 "com/example/query_to_table/querytotable/sql/Token" "kind" "Lcom/example/query_to_table/querytotable/sql/Token$Kind;" .null := D1 (Or.inr (hw _ (List.mem_of_getElem? (i := 46) rfl))) (ty := (.object "com/example/query_to_table/querytotable/sql/Token$Kind")) (by decide)
  have F1_48 : Fld Z h1 b1 "com/example/query_to_table/querytotable/sql/Token" "text" "Ljava/lang/String;" .null := D1 (Or.inr (hw _ (List.mem_of_getElem? (i := 48) rfl))) (ty := (.object "java/lang/String")) (by decide)
  have F1_50 : Fld Z h1 b1 "com/example/query_to_table/querytotable/sql/Token" "line" "I" (.int (0 : Int32)) := D1 (Or.inr (hw _ (List.mem_of_getElem? (i := 50) rfl))) (ty := .int) (by decide)
  have F1_52 : Fld Z h1 b1 "com/example/query_to_table/querytotable/sql/Token" "start" "I" (.int (0 : Int32)) := D1 (Or.inr (hw _ (List.mem_of_getElem? (i := 52) rfl))) (ty := .int) (by decide)
  have F1_54 : Fld Z h1 b1 "com/example/query_to_table/querytotable/sql/Token" "end" "I" (.int (0 : Int32)) := D1 (Or.inr (hw _ (List.mem_of_getElem? (i := 54) rfl))) (ty := .int) (by decide)
  refine Wp.back (U' := (T1.setTop (mkF m 140 #[.val (.int p0), .val (.int p1), .val (.int p2), .val (.int p3), .val (.int p4), .val (.int p5), .val (.int kx), .val (.int lt), .val (.int ls), .val (.int t0), .val (.int t1), .val (.int s0), .val (.int s1), .val (.int (0 : Int32)), .val (.ref tx), .val (.ref br), .unset, .unset] [(.ref b1)]))) st1 ?_
  refine Wp.back (U' := (T1.setTop (mkF m 143 #[.val (.int p0), .val (.int p1), .val (.int p2), .val (.int p3), .val (.int p4), .val (.int p5), .val (.int kx), .val (.int lt), .val (.int ls), .val (.int t0), .val (.int t1), .val (.int s0), .val (.int s1), .val (.int (0 : Int32)), .val (.ref tx), .val (.ref br), .unset, .unset] [(.int kx), (.ref b1), (.ref b1)]))) (fun t k => XS.dup X1.here hx rfl (hb hby at_140) rfl rfl (XS.iload X1.here hx rfl (hb hby at_141) rfl k)) ?_
  obtain ⟨_, _, ⟨T3, L3, k3, n3⟩, -, X3, ⟨Lc3, hQ3, l3, y3, z3⟩, st3⟩ := Jvm.LawKit.callS X1 hx (y := (⟨"com/example/query_to_table/querytotable/sql/TokenIsSymbolPinLaw", "kindOf", "(I)Lcom/example/query_to_table/querytotable/sql/Token$Kind;"⟩ : MethodName)) hown (mvT hZ (hw _ (List.mem_of_getElem? (i := 30) rfl))) (mvT hZ (hw _ (List.mem_of_getElem? (i := 31) rfl))) (mvT hZ (hw _ (List.mem_of_getElem? (i := 3) rfl))) (mvT hZ (hw _ (List.mem_of_getElem? (i := 32) rfl))) (by decide) (backOf (W := 2) (rm_kn l Z a0 hw [] kx u0 u1 u2 u3 u4 u5 h1 n0 f2_0 f2_1 f2_2 f2_3 f2_4 f2_6 nu0 nu1 nu2 nu3 nu5 hk4) hZ (hw _ (List.mem_of_getElem? (i := 32) rfl)) (hw _ (List.mem_of_getElem? (i := 3) rfl)) (by decide) (by decide)) (g := (mkF m 143 #[.val (.int p0), .val (.int p1), .val (.int p2), .val (.int p3), .val (.int p4), .val (.int p5), .val (.int kx), .val (.int lt), .val (.int ls), .val (.int t0), .val (.int t1), .val (.int s0), .val (.int s1), .val (.int (0 : Int32)), .val (.ref tx), .val (.ref br), .unset, .unset] [(.int kx), (.ref b1), (.ref b1)])) rfl (by rw [hml]; rfl) (argsL := [(.int kx)]) (rest := [(.ref b1), (.ref b1)]) (lenOf own_txrpd0_0 rfl) rfl (by show 2 * 0 + _ ≤ _; exact Nat.le_of_eq rfl) (hb hby at_143) (fun _ _ => ⟨rfl, e1, (by decide : 13 + 0 ≤ _), (by decide : 69 + 0 ≤ _)⟩)
  dsimp only [Pt.U, Pt.locs, Pt.cells, Pt.slots] at X3 l3 y3 z3 st3 hQ3
  subst l3 y3 z3
  obtain ⟨r3, rfl, nr3, N3q, K3⟩ := hQ3
  have f4_0 := Nat.le_trans f2_0 K3.1
  have f4_1 := Sta_keep0 f2_1 K3
  have f4_2 := Sta_keep0 f2_2 K3
  have f4_3 := Sta_keep0 f2_3 K3
  have f4_4 := Sta_keep0 f2_4 K3
  have f4_5 := Sta_keep0 f2_5 K3
  have f4_6 := Sta_keep0 f2_6 K3
  have f4_7 := Sta_keep0 f2_7 K3
  have f4_8 := Nat.le_trans f2_8 K3.1
  have f4_9 := A1.keep K3
  have f4_10 := F1_46.keep K3 nin0
  have f4_11 := F1_48.keep K3 nin0
  have f4_12 := F1_50.keep K3 nin0
  have f4_13 := F1_52.keep K3 nin0
  have f4_14 := F1_54.keep K3 nin0
  have N3 := Fr.app N0 N3q
  refine Wp.back (U' := (T3.setTop (mkF m 146 #[.val (.int p0), .val (.int p1), .val (.int p2), .val (.int p3), .val (.int p4), .val (.int p5), .val (.int kx), .val (.int lt), .val (.int ls), .val (.int t0), .val (.int t1), .val (.int s0), .val (.int s1), .val (.int (0 : Int32)), .val (.ref tx), .val (.ref br), .unset, .unset] [(.ref r3), (.ref b1), (.ref b1)]))) st3 ?_
  refine Wp.back (U' := (T3.setTop (mkF m 151 #[.val (.int p0), .val (.int p1), .val (.int p2), .val (.int p3), .val (.int p4), .val (.int p5), .val (.int kx), .val (.int lt), .val (.int ls), .val (.int t0), .val (.int t1), .val (.int s0), .val (.int s1), .val (.int (0 : Int32)), .val (.ref tx), .val (.ref br), .unset, .unset] [(.int p3), (.int p2), (.int p1), (.ref tx), (.ref r3), (.ref b1), (.ref b1)]))) (fun t k => XS.aload X3.here hx rfl (hb hby at_146) rfl rfl (XS.iloadN X3.here hx rfl (hb hby at_148) rfl (XS.iloadN X3.here hx rfl (hb hby at_149) rfl (XS.iloadN X3.here hx rfl (hb hby at_150) rfl k)))) ?_
  obtain ⟨_, _, ⟨T5, L5, k5, n5⟩, -, X5, ⟨Lc5, hQ5, l5, y5, z5⟩, st5⟩ := X3.specialBack hx (y := (⟨"com/example/query_to_table/querytotable/sql/Token", "<init>", "(Lcom/example/query_to_table/querytotable/sql/Token$Kind;Ljava/lang/String;III)V"⟩ : MethodName)) rfl hown (mvT hZ (hw _ (List.mem_of_getElem? (i := 36) rfl))) (mvT hZ (hw _ (List.mem_of_getElem? (i := 37) rfl))) (mvT hZ (hw _ (List.mem_of_getElem? (i := 38) rfl))) (by decide) (backOf (W := 1) (rm_ti l Z a0 hw [] b1 r3 tx p1 p2 p3  T3.heap n0 f4_0 f4_9 f4_10 f4_11 f4_12 f4_13 f4_14 g_b1) hZ (hw _ (List.mem_of_getElem? (i := 38) rfl)) (hw _ (List.mem_of_getElem? (i := 29) rfl)) (by decide) (by decide)) (g := (mkF m 151 #[.val (.int p0), .val (.int p1), .val (.int p2), .val (.int p3), .val (.int p4), .val (.int p5), .val (.int kx), .val (.int lt), .val (.int ls), .val (.int t0), .val (.int t1), .val (.int s0), .val (.int s1), .val (.int (0 : Int32)), .val (.ref tx), .val (.ref br), .unset, .unset] [(.int p3), (.int p2), (.int p1), (.ref tx), (.ref r3), (.ref b1), (.ref b1)])) rfl (by rw [hml]; rfl) (Steps.refl _) (a := b1) (argsL := [(.ref r3), (.ref tx), (.int p1), (.int p2), (.int p3)]) (rest := [(.ref b1)]) (lenOf own_txrpd0_1 rfl) rfl (by show 2 * 0 + _ ≤ _; exact Nat.le_of_eq rfl) (hb hby at_151) (fun _ _ => ⟨rfl, rfl, (by decide : 13 + 0 ≤ _), (by decide : 69 + 0 ≤ _)⟩)
  dsimp only [Pt.U, Pt.locs, Pt.cells, Pt.slots] at X5 l5 y5 z5 st5 hQ5
  subst l5 y5 z5
  obtain ⟨rfl, N5q, K5, o5_0, o5_1, o5_2⟩ := hQ5
  have f6_0 := Nat.le_trans f4_0 K5.1
  have f6_1 := Sta_keep f4_1 K5 (allS (Exa_ns f4_9) all0)
  have f6_2 := Sta_keep f4_2 K5 (allS (Exa_ns f4_9) all0)
  have f6_3 := Sta_keep f4_3 K5 (allS (Exa_ns f4_9) all0)
  have f6_4 := Sta_keep f4_4 K5 (allS (Exa_ns f4_9) all0)
  have f6_5 := Sta_keep f4_5 K5 (allS (Exa_ns f4_9) all0)
  have f6_6 := Sta_keep f4_6 K5 (allS (Exa_ns f4_9) all0)
  have f6_7 := Sta_keep f4_7 K5 (allS (Exa_ns f4_9) all0)
  have f6_8 := Nat.le_trans f4_8 K5.1
  have f6_9 := f4_9.keep K5
  have N5 := Fr.app N3 N5q
  refine Wp.back (U' := (T5.setTop (mkF m 154 #[.val (.int p0), .val (.int p1), .val (.int p2), .val (.int p3), .val (.int p4), .val (.int p5), .val (.int kx), .val (.int lt), .val (.int ls), .val (.int t0), .val (.int t1), .val (.int s0), .val (.int s1), .val (.int (0 : Int32)), .val (.ref tx), .val (.ref br), .unset, .unset] [(.ref b1)]))) (fun t k => st5.trans k) ?_
  refine Wp.back (U' := (T5.setTop (mkF m 211 #[.val (.int p0), .val (.int p1), .val (.int p2), .val (.int p3), .val (.int p4), .val (.int p5), .val (.int kx), .val (.int lt), .val (.int ls), .val (.int t0), .val (.int t1), .val (.int s0), .val (.int s1), .val (.int (0 : Int32)), .val (.ref tx), .val (.ref br), .val (.ref b1), .val (.int (0 : Int32))] [(.ref br), (.ref b1)]))) (fun t k => XS.astore X5.here hx rfl (hb hby at_154) rfl rfl (l' := #[.val (.int p0), .val (.int p1), .val (.int p2), .val (.int p3), .val (.int p4), .val (.int p5), .val (.int kx), .val (.int lt), .val (.int ls), .val (.int t0), .val (.int t1), .val (.int s0), .val (.int s1), .val (.int (0 : Int32)), .val (.ref tx), .val (.ref br), .val (.ref b1), .unset]) rfl (XS.iload X5.here hx rfl (hb hby at_156) rfl (XS.ifNo X5.here hx rfl (hb hby at_158) rfl ((if0 _ _).trans (teq (by decide)).2) (XS.iload X5.here hx rfl (hb hby at_161) rfl (XT.iconstV X5.here hx rfl (4 : Int32) (hb hby at_163) (by decide) (XS.icmpYes X5.here hx rfl (pc0 := 164) (pc' := 204) rfl (hb hby at_164) rfl (feq hk4).2 (by decide) (by decide) (XT.iconstV X5.here hx rfl (0 : Int32) (hb hby at_204) (by decide) (XS.istore X5.here hx rfl (hb hby at_205) rfl (l' := #[.val (.int p0), .val (.int p1), .val (.int p2), .val (.int p3), .val (.int p4), .val (.int p5), .val (.int kx), .val (.int lt), .val (.int ls), .val (.int t0), .val (.int t1), .val (.int s0), .val (.int s1), .val (.int (0 : Int32)), .val (.ref tx), .val (.ref br), .val (.ref b1), .val (.int (0 : Int32))]) rfl (XS.aload X5.here hx rfl (hb hby at_207) rfl rfl (XS.aload X5.here hx rfl (hb hby at_209) rfl rfl k)))))))))) ?_
  obtain ⟨cq7, kq7, q7a, q7b, q7c⟩ := isOf hZ rfl o5_0
  obtain ⟨_, _, ⟨T7, L7, k7, n7⟩, -, X7, ⟨Lc7, hQ7, l7, y7, z7⟩, st7⟩ := X5.virtualBack hx (y := (⟨"com/example/query_to_table/querytotable/sql/Token", "isSymbol", "(Ljava/lang/String;)Z"⟩ : MethodName)) (z := (⟨"com/example/query_to_table/querytotable/sql/Token", "isSymbol", "(Ljava/lang/String;)Z"⟩ : MethodName)) hown (mvT hZ (hw _ (List.mem_of_getElem? (i := 55) rfl))) (mvT hZ (hw _ (List.mem_of_getElem? (i := 56) rfl))) (notFace_of_selects (args := #[]) (mvT hZ (hw _ (List.mem_of_getElem? (i := 58) rfl)))) (mvT hZ (hw _ (List.mem_of_getElem? (i := 58) rfl))) (mvT hZ (hw _ (List.mem_of_getElem? (i := 57) rfl))) (by decide) (backOf (W := 0) (rm_isxr l Z a0 hw [] b1 br r3 u4 T5.heap n0 f6_0 o5_1 f6_5 nr3) hZ (hw _ (List.mem_of_getElem? (i := 59) rfl)) (hw _ (List.mem_of_getElem? (i := 29) rfl)) (by decide) (by decide)) q7a q7c (g := (mkF m 211 #[.val (.int p0), .val (.int p1), .val (.int p2), .val (.int p3), .val (.int p4), .val (.int p5), .val (.int kx), .val (.int lt), .val (.int ls), .val (.int t0), .val (.int t1), .val (.int s0), .val (.int s1), .val (.int (0 : Int32)), .val (.ref tx), .val (.ref br), .val (.ref b1), .val (.int (0 : Int32))] [(.ref br), (.ref b1)])) rfl (by rw [hml]; rfl) (Steps.refl _) (argsL := [(.ref br)]) (rest := []) (lenOf own_txrpd0_2 rfl) rfl (by show 2 * 0 + _ ≤ _; exact Nat.le_of_eq rfl) (hb hby at_211) (fun _ _ => ⟨rfl, rfl, (by decide : 13 + 0 ≤ _), (by decide : 69 + 0 ≤ _)⟩)
  dsimp only [Pt.U, Pt.locs, Pt.cells, Pt.slots] at X7 l7 y7 z7 st7 hQ7
  subst l7 y7 z7
  obtain ⟨rfl, N7q, K7⟩ := hQ7
  have f8_0 := Nat.le_trans f6_0 K7.1
  have f8_1 := Sta_keep0 f6_1 K7
  have f8_2 := Sta_keep0 f6_2 K7
  have f8_3 := Sta_keep0 f6_3 K7
  have f8_4 := Sta_keep0 f6_4 K7
  have f8_5 := Sta_keep0 f6_5 K7
  have f8_6 := Sta_keep0 f6_6 K7
  have f8_7 := Sta_keep0 f6_7 K7
  have f8_8 := Nat.le_trans f6_8 K7.1
  have f8_9 := o5_0.keep K7
  have f8_10 := o5_1.keep K7 nin0
  have f8_11 := o5_2.keep K7 nin0
  have N7 := Fr.app N5 N7q
  refine Wp.back (U' := (T7.setTop (mkF m 214 #[.val (.int p0), .val (.int p1), .val (.int p2), .val (.int p3), .val (.int p4), .val (.int p5), .val (.int kx), .val (.int lt), .val (.int ls), .val (.int t0), .val (.int t1), .val (.int s0), .val (.int s1), .val (.int (0 : Int32)), .val (.ref tx), .val (.ref br), .val (.ref b1), .val (.int (0 : Int32))] [(.int (0 : Int32))]))) (fun t k => st7.trans k) ?_
  refine Wp.back (U' := (T7.setTop (mkF m 224 #[.val (.int p0), .val (.int p1), .val (.int p2), .val (.int p3), .val (.int p4), .val (.int p5), .val (.int kx), .val (.int lt), .val (.int ls), .val (.int t0), .val (.int t1), .val (.int s0), .val (.int s1), .val (.int (0 : Int32)), .val (.ref tx), .val (.ref br), .val (.ref b1), .val (.int (0 : Int32))] [(.int (1 : Int32))]))) (fun t k => XS.iload X7.here hx rfl (hb hby at_214) rfl (XS.icmpNo X7.here hx rfl (hb hby at_216) rfl (teq (by decide)).2 (XT.iconstV X7.here hx rfl (1 : Int32) (hb hby at_219) (by decide) (XS.goto X7.here hx rfl (pc0 := 220) (pc' := 224) rfl (hb hby at_220) (by decide) (by decide) k)))) ?_
  obtain ⟨fs, hr, hrun, hended, hend⟩ := X7.leaveW hS0 f8_8 (v := (some (.int (1 : Int32)))) (fun h => by rw [hret] at h; cases h)
  refine Wp.done (retN X7 hx (t := .boolean) hret (by simp) (hb hby at_224) hr) hrun hended ⟨_, _, rfl, ?_, hend.1, hend.2.1, hend.2.2.1, hend.2.2.2.mono (by decide) (by decide)⟩
  show QL n0 _ T7.heap _
  exact ⟨rfl, N7⟩
theorem own_t4npd0_0 : parseMethodDescriptor "(I)Lcom/example/query_to_table/querytotable/sql/Token$Kind;" = some ⟨[.int], some (.object "com/example/query_to_table/querytotable/sql/Token$Kind")⟩ := by decide +kernel
theorem own_t4npd0_1 : parseMethodDescriptor "(Lcom/example/query_to_table/querytotable/sql/Token$Kind;Ljava/lang/String;III)V" = some ⟨[(.object "com/example/query_to_table/querytotable/sql/Token$Kind"), (.object "java/lang/String"), .int, .int, .int], none⟩ := by decide +kernel
theorem own_t4npd0_2 : parseMethodDescriptor "(Ljava/lang/String;)Z" = some ⟨[(.object "java/lang/String")], some .boolean⟩ := by decide +kernel
set_option maxRecDepth 65536 in
set_option maxHeartbeats 40000000 in
theorem own_t4n {p : Program} {l : Launch} {e : Env} {s : State} {m : MethodId} {args : Array Value} {below : List Frame} {meth : Method} {c : Code} {T0 : State} {locs : List Loc} {Z : State} {a0 : Array Value} {hA : Heap} {n0 : Nat} {vm0 : Vm} {kk : Nat} (p0 p1 p2 p3 p4 p5 lt ls t0 t1 s0 s1 : Int32) (u0 u1 u2 u3 u4 u5 : Addr) (cs : Int32) (tx : Addr) 
    (hx : p.tables.exec = Jvm.exec) (hw : ∀ d ∈ tables_1, d.before a0 Z = true) (hby : c.code = code) (hml : c.maxLocals = 18) (hret : meth.sig.returnType = ret) (hlk : meth.locks = false) (hZ : Z.Warmed39 (s.setVm vm0).vm) (hown : (s.setVm vm0).vm.findClass "com/example/query_to_table/querytotable/sql/TokenIsSymbolPinLaw" = some m.cls) (X0 : Stand p l e room_1 (s.setVm vm0) m args below meth c T0 locs 12 64) (e0 : T0.heap = hA) (N0 : Fr n0 locs) (Z0 : n0 ≤ hA.size) (hS0 : s.Since vm0 kk) (hk0 : kk ≤ hA.size) (SK0 : Sta Z hA "com/example/query_to_table/querytotable/sql/Token$Kind" "WORD" "Lcom/example/query_to_table/querytotable/sql/Token$Kind;" (.ref u0)) (SK1 : Sta Z hA "com/example/query_to_table/querytotable/sql/Token$Kind" "QUOTED_NAME" "Lcom/example/query_to_table/querytotable/sql/Token$Kind;" (.ref u1)) (SK2 : Sta Z hA "com/example/query_to_table/querytotable/sql/Token$Kind" "STRING" "Lcom/example/query_to_table/querytotable/sql/Token$Kind;" (.ref u2)) (SK3 : Sta Z hA "com/example/query_to_table/querytotable/sql/Token$Kind" "NUMBER" "Lcom/example/query_to_table/querytotable/sql/Token$Kind;" (.ref u3)) (SK4 : Sta Z hA "com/example/query_to_table/querytotable/sql/Token$Kind" "SYMBOL" "Lcom/example/query_to_table/querytotable/sql/Token$Kind;" (.ref u4)) (SK5 : Sta Z hA "com/example/query_to_table/querytotable/sql/Token$Kind" "UNCLOSED" "Lcom/example/query_to_table/querytotable/sql/Token$Kind;" (.ref u5)) (PC : Sta Z hA "java/lang/String" "COMPACT_STRINGS" "Z" (.int cs)) (B0 : Exa Z hA tx "java/lang/String") (hcs : ¬ cs = (0 : Int32)) (nu0 : u0 ≠ u4) (nu1 : u1 ≠ u4) (nu2 : u2 ≠ u4) (nu3 : u3 ≠ u4) (nu5 : u5 ≠ u4) :
    Wp p e below (fun o s₂ => ∃ v L, o = .returned v ∧ QL n0 v s₂.heap L ∧ ReturnedEndW s o s₂ L 24 1152) (T0.setTop (mkF m 137 #[.val (.int p0), .val (.int p1), .val (.int p2), .val (.int p3), .val (.int p4), .val (.int p5), .val (.int (4 : Int32)), .val (.int lt), .val (.int ls), .val (.int t0), .val (.int t1), .val (.int s0), .val (.int s1), .val (.int (1 : Int32)), .val (.ref tx), .val .null, .unset, .unset] [])) := by
  have hEL : EW Z a0 consts_1 := own_EW hw
  have wS := own_wS hw
  obtain ⟨T1, h1, X1, e1, E1, A1, D1, -, st1⟩ := newO X0 hx hZ hown (hw _ (List.mem_of_getElem? (i := 27) rfl)) (hw _ (List.mem_of_getElem? (i := 28) rfl)) (hw _ (List.mem_of_getElem? (i := 29) rfl)) e0 (g := (mkF m 137 #[.val (.int p0), .val (.int p1), .val (.int p2), .val (.int p3), .val (.int p4), .val (.int p5), .val (.int (4 : Int32)), .val (.int lt), .val (.int ls), .val (.int t0), .val (.int t1), .val (.int s0), .val (.int s1), .val (.int (1 : Int32)), .val (.ref tx), .val .null, .unset, .unset] [])) rfl (hb hby at_137) (by decide) (by decide)
  obtain ⟨b1, g1⟩ : ∃ z, z = hA.size := ⟨_, rfl⟩
  rw [← g1] at A1 D1 st1
  have ne_tx_b1 : tx ≠ b1 := Nat.ne_of_lt (Nat.lt_of_lt_of_le B0.lt (Nat.le_of_eq g1.symm))
  have g_b1 : n0 ≤ b1 := Nat.le_trans Z0 (Nat.le_of_eq g1.symm)
  have f2_0 := Nat.le_trans Z0 E1.1
  have f2_1 := SK0.ext E1
  have f2_2 := SK1.ext E1
  have f2_3 := SK2.ext E1
  have f2_4 := SK3.ext E1
  have f2_5 := SK4.ext E1
  have f2_6 := SK5.ext E1
  have f2_7 := PC.ext E1
  have f2_8 := Nat.le_trans hk0 E1.1
  have f2_9 := B0.ext E1
  have F1_46 : Fld Z h1 b1 "com/example/query_to_table/querytotable/sql/Token" "kind" "Lcom/example/query_to_table/querytotable/sql/Token$Kind;" .null := D1 (Or.inr (hw _ (List.mem_of_getElem? (i := 46) rfl))) (ty := (.object "com/example/query_to_table/querytotable/sql/Token$Kind")) (by decide)
  have F1_48 : Fld Z h1 b1 "com/example/query_to_table/querytotable/sql/Token" "text" "Ljava/lang/String;" .null := D1 (Or.inr (hw _ (List.mem_of_getElem? (i := 48) rfl))) (ty := (.object "java/lang/String")) (by decide)
  have F1_50 : Fld Z h1 b1 "com/example/query_to_table/querytotable/sql/Token" "line" "I" (.int (0 : Int32)) := D1 (Or.inr (hw _ (List.mem_of_getElem? (i := 50) rfl))) (ty := .int) (by decide)
  have F1_52 : Fld Z h1 b1 "com/example/query_to_table/querytotable/sql/Token" "start" "I" (.int (0 : Int32)) := D1 (Or.inr (hw _ (List.mem_of_getElem? (i := 52) rfl))) (ty := .int) (by decide)
  have F1_54 : Fld Z h1 b1 "com/example/query_to_table/querytotable/sql/Token" "end" "I" (.int (0 : Int32)) := D1 (Or.inr (hw _ (List.mem_of_getElem? (i := 54) rfl))) (ty := .int) (by decide)
  refine Wp.back (U' := (T1.setTop (mkF m 140 #[.val (.int p0), .val (.int p1), .val (.int p2), .val (.int p3), .val (.int p4), .val (.int p5), .val (.int (4 : Int32)), .val (.int lt), .val (.int ls), .val (.int t0), .val (.int t1), .val (.int s0), .val (.int s1), .val (.int (1 : Int32)), .val (.ref tx), .val .null, .unset, .unset] [(.ref b1)]))) st1 ?_
  refine Wp.back (U' := (T1.setTop (mkF m 143 #[.val (.int p0), .val (.int p1), .val (.int p2), .val (.int p3), .val (.int p4), .val (.int p5), .val (.int (4 : Int32)), .val (.int lt), .val (.int ls), .val (.int t0), .val (.int t1), .val (.int s0), .val (.int s1), .val (.int (1 : Int32)), .val (.ref tx), .val .null, .unset, .unset] [(.int (4 : Int32)), (.ref b1), (.ref b1)]))) (fun t k => XS.dup X1.here hx rfl (hb hby at_140) rfl rfl (XS.iload X1.here hx rfl (hb hby at_141) rfl k)) ?_
  obtain ⟨_, _, ⟨T3, L3, k3, n3⟩, -, X3, ⟨Lc3, hQ3, l3, y3, z3⟩, st3⟩ := Jvm.LawKit.callS X1 hx (y := (⟨"com/example/query_to_table/querytotable/sql/TokenIsSymbolPinLaw", "kindOf", "(I)Lcom/example/query_to_table/querytotable/sql/Token$Kind;"⟩ : MethodName)) hown (mvT hZ (hw _ (List.mem_of_getElem? (i := 30) rfl))) (mvT hZ (hw _ (List.mem_of_getElem? (i := 31) rfl))) (mvT hZ (hw _ (List.mem_of_getElem? (i := 3) rfl))) (mvT hZ (hw _ (List.mem_of_getElem? (i := 32) rfl))) (by decide) (backOf (W := 2) (rm_k4 l Z a0 hw []  u4 h1 n0 f2_0 f2_5) hZ (hw _ (List.mem_of_getElem? (i := 32) rfl)) (hw _ (List.mem_of_getElem? (i := 3) rfl)) (by decide) (by decide)) (g := (mkF m 143 #[.val (.int p0), .val (.int p1), .val (.int p2), .val (.int p3), .val (.int p4), .val (.int p5), .val (.int (4 : Int32)), .val (.int lt), .val (.int ls), .val (.int t0), .val (.int t1), .val (.int s0), .val (.int s1), .val (.int (1 : Int32)), .val (.ref tx), .val .null, .unset, .unset] [(.int (4 : Int32)), (.ref b1), (.ref b1)])) rfl (by rw [hml]; rfl) (argsL := [(.int (4 : Int32))]) (rest := [(.ref b1), (.ref b1)]) (lenOf own_t4npd0_0 rfl) rfl (by show 2 * 0 + _ ≤ _; exact Nat.le_of_eq rfl) (hb hby at_143) (fun _ _ => ⟨rfl, e1, (by decide : 13 + 0 ≤ _), (by decide : 69 + 0 ≤ _)⟩)
  dsimp only [Pt.U, Pt.locs, Pt.cells, Pt.slots] at X3 l3 y3 z3 st3 hQ3
  subst l3 y3 z3
  obtain ⟨rfl, N3q, K3⟩ := hQ3
  have f4_0 := Nat.le_trans f2_0 K3.1
  have f4_1 := Sta_keep0 f2_1 K3
  have f4_2 := Sta_keep0 f2_2 K3
  have f4_3 := Sta_keep0 f2_3 K3
  have f4_4 := Sta_keep0 f2_4 K3
  have f4_5 := Sta_keep0 f2_5 K3
  have f4_6 := Sta_keep0 f2_6 K3
  have f4_7 := Sta_keep0 f2_7 K3
  have f4_8 := Nat.le_trans f2_8 K3.1
  have f4_9 := f2_9.keep K3
  have f4_10 := A1.keep K3
  have f4_11 := F1_46.keep K3 nin0
  have f4_12 := F1_48.keep K3 nin0
  have f4_13 := F1_50.keep K3 nin0
  have f4_14 := F1_52.keep K3 nin0
  have f4_15 := F1_54.keep K3 nin0
  have N3 := Fr.app N0 N3q
  refine Wp.back (U' := (T3.setTop (mkF m 146 #[.val (.int p0), .val (.int p1), .val (.int p2), .val (.int p3), .val (.int p4), .val (.int p5), .val (.int (4 : Int32)), .val (.int lt), .val (.int ls), .val (.int t0), .val (.int t1), .val (.int s0), .val (.int s1), .val (.int (1 : Int32)), .val (.ref tx), .val .null, .unset, .unset] [(.ref u4), (.ref b1), (.ref b1)]))) st3 ?_
  refine Wp.back (U' := (T3.setTop (mkF m 151 #[.val (.int p0), .val (.int p1), .val (.int p2), .val (.int p3), .val (.int p4), .val (.int p5), .val (.int (4 : Int32)), .val (.int lt), .val (.int ls), .val (.int t0), .val (.int t1), .val (.int s0), .val (.int s1), .val (.int (1 : Int32)), .val (.ref tx), .val .null, .unset, .unset] [(.int p3), (.int p2), (.int p1), (.ref tx), (.ref u4), (.ref b1), (.ref b1)]))) (fun t k => XS.aload X3.here hx rfl (hb hby at_146) rfl rfl (XS.iloadN X3.here hx rfl (hb hby at_148) rfl (XS.iloadN X3.here hx rfl (hb hby at_149) rfl (XS.iloadN X3.here hx rfl (hb hby at_150) rfl k)))) ?_
  obtain ⟨_, _, ⟨T5, L5, k5, n5⟩, -, X5, ⟨Lc5, hQ5, l5, y5, z5⟩, st5⟩ := X3.specialBack hx (y := (⟨"com/example/query_to_table/querytotable/sql/Token", "<init>", "(Lcom/example/query_to_table/querytotable/sql/Token$Kind;Ljava/lang/String;III)V"⟩ : MethodName)) rfl hown (mvT hZ (hw _ (List.mem_of_getElem? (i := 36) rfl))) (mvT hZ (hw _ (List.mem_of_getElem? (i := 37) rfl))) (mvT hZ (hw _ (List.mem_of_getElem? (i := 38) rfl))) (by decide) (backOf (W := 1) (rm_ti l Z a0 hw [] b1 u4 tx p1 p2 p3  T3.heap n0 f4_0 f4_10 f4_11 f4_12 f4_13 f4_14 f4_15 g_b1) hZ (hw _ (List.mem_of_getElem? (i := 38) rfl)) (hw _ (List.mem_of_getElem? (i := 29) rfl)) (by decide) (by decide)) (g := (mkF m 151 #[.val (.int p0), .val (.int p1), .val (.int p2), .val (.int p3), .val (.int p4), .val (.int p5), .val (.int (4 : Int32)), .val (.int lt), .val (.int ls), .val (.int t0), .val (.int t1), .val (.int s0), .val (.int s1), .val (.int (1 : Int32)), .val (.ref tx), .val .null, .unset, .unset] [(.int p3), (.int p2), (.int p1), (.ref tx), (.ref u4), (.ref b1), (.ref b1)])) rfl (by rw [hml]; rfl) (Steps.refl _) (a := b1) (argsL := [(.ref u4), (.ref tx), (.int p1), (.int p2), (.int p3)]) (rest := [(.ref b1)]) (lenOf own_t4npd0_1 rfl) rfl (by show 2 * 0 + _ ≤ _; exact Nat.le_of_eq rfl) (hb hby at_151) (fun _ _ => ⟨rfl, rfl, (by decide : 13 + 0 ≤ _), (by decide : 69 + 0 ≤ _)⟩)
  dsimp only [Pt.U, Pt.locs, Pt.cells, Pt.slots] at X5 l5 y5 z5 st5 hQ5
  subst l5 y5 z5
  obtain ⟨rfl, N5q, K5, o5_0, o5_1, o5_2⟩ := hQ5
  have f6_0 := Nat.le_trans f4_0 K5.1
  have f6_1 := Sta_keep f4_1 K5 (allS (Exa_ns f4_10) all0)
  have f6_2 := Sta_keep f4_2 K5 (allS (Exa_ns f4_10) all0)
  have f6_3 := Sta_keep f4_3 K5 (allS (Exa_ns f4_10) all0)
  have f6_4 := Sta_keep f4_4 K5 (allS (Exa_ns f4_10) all0)
  have f6_5 := Sta_keep f4_5 K5 (allS (Exa_ns f4_10) all0)
  have f6_6 := Sta_keep f4_6 K5 (allS (Exa_ns f4_10) all0)
  have f6_7 := Sta_keep f4_7 K5 (allS (Exa_ns f4_10) all0)
  have f6_8 := Nat.le_trans f4_8 K5.1
  have f6_9 := f4_9.keep K5
  have f6_10 := f4_10.keep K5
  have N5 := Fr.app N3 N5q
  refine Wp.back (U' := (T5.setTop (mkF m 154 #[.val (.int p0), .val (.int p1), .val (.int p2), .val (.int p3), .val (.int p4), .val (.int p5), .val (.int (4 : Int32)), .val (.int lt), .val (.int ls), .val (.int t0), .val (.int t1), .val (.int s0), .val (.int s1), .val (.int (1 : Int32)), .val (.ref tx), .val .null, .unset, .unset] [(.ref b1)]))) (fun t k => st5.trans k) ?_
  refine Wp.back (U' := (T5.setTop (mkF m 211 #[.val (.int p0), .val (.int p1), .val (.int p2), .val (.int p3), .val (.int p4), .val (.int p5), .val (.int (4 : Int32)), .val (.int lt), .val (.int ls), .val (.int t0), .val (.int t1), .val (.int s0), .val (.int s1), .val (.int (1 : Int32)), .val (.ref tx), .val .null, .val (.ref b1), .val (.int (0 : Int32))] [.null, (.ref b1)]))) (fun t k => XS.astore X5.here hx rfl (hb hby at_154) rfl rfl (l' := #[.val (.int p0), .val (.int p1), .val (.int p2), .val (.int p3), .val (.int p4), .val (.int p5), .val (.int (4 : Int32)), .val (.int lt), .val (.int ls), .val (.int t0), .val (.int t1), .val (.int s0), .val (.int s1), .val (.int (1 : Int32)), .val (.ref tx), .val .null, .val (.ref b1), .unset]) rfl (XS.iload X5.here hx rfl (hb hby at_156) rfl (XS.ifYes X5.here hx rfl (pc0 := 158) (pc' := 204) rfl (hb hby at_158) rfl ((if0 _ _).trans (feq (by decide)).2) (by decide) (by decide) (XT.iconstV X5.here hx rfl (0 : Int32) (hb hby at_204) (by decide) (XS.istore X5.here hx rfl (hb hby at_205) rfl (l' := #[.val (.int p0), .val (.int p1), .val (.int p2), .val (.int p3), .val (.int p4), .val (.int p5), .val (.int (4 : Int32)), .val (.int lt), .val (.int ls), .val (.int t0), .val (.int t1), .val (.int s0), .val (.int s1), .val (.int (1 : Int32)), .val (.ref tx), .val .null, .val (.ref b1), .val (.int (0 : Int32))]) rfl (XS.aload X5.here hx rfl (hb hby at_207) rfl rfl (XS.aload X5.here hx rfl (hb hby at_209) rfl rfl k))))))) ?_
  obtain ⟨cq7, kq7, q7a, q7b, q7c⟩ := isOf hZ rfl o5_0
  obtain ⟨_, _, ⟨T7, L7, k7, n7⟩, -, X7, ⟨Lc7, hQ7, l7, y7, z7⟩, st7⟩ := X5.virtualBack hx (y := (⟨"com/example/query_to_table/querytotable/sql/Token", "isSymbol", "(Ljava/lang/String;)Z"⟩ : MethodName)) (z := (⟨"com/example/query_to_table/querytotable/sql/Token", "isSymbol", "(Ljava/lang/String;)Z"⟩ : MethodName)) hown (mvT hZ (hw _ (List.mem_of_getElem? (i := 55) rfl))) (mvT hZ (hw _ (List.mem_of_getElem? (i := 56) rfl))) (notFace_of_selects (args := #[]) (mvT hZ (hw _ (List.mem_of_getElem? (i := 58) rfl)))) (mvT hZ (hw _ (List.mem_of_getElem? (i := 58) rfl))) (mvT hZ (hw _ (List.mem_of_getElem? (i := 57) rfl))) (by decide) (backOf (W := 0) (rm_is_n l Z a0 hw [] b1 tx u4 T5.heap n0 f6_0 o5_1 f6_5 o5_2 f6_9) hZ (hw _ (List.mem_of_getElem? (i := 59) rfl)) (hw _ (List.mem_of_getElem? (i := 29) rfl)) (by decide) (by decide)) q7a q7c (g := (mkF m 211 #[.val (.int p0), .val (.int p1), .val (.int p2), .val (.int p3), .val (.int p4), .val (.int p5), .val (.int (4 : Int32)), .val (.int lt), .val (.int ls), .val (.int t0), .val (.int t1), .val (.int s0), .val (.int s1), .val (.int (1 : Int32)), .val (.ref tx), .val .null, .val (.ref b1), .val (.int (0 : Int32))] [.null, (.ref b1)])) rfl (by rw [hml]; rfl) (Steps.refl _) (argsL := [.null]) (rest := []) (lenOf own_t4npd0_2 rfl) rfl (by show 2 * 0 + _ ≤ _; exact Nat.le_of_eq rfl) (hb hby at_211) (fun _ _ => ⟨rfl, rfl, (by decide : 13 + 0 ≤ _), (by decide : 69 + 0 ≤ _)⟩)
  dsimp only [Pt.U, Pt.locs, Pt.cells, Pt.slots] at X7 l7 y7 z7 st7 hQ7
  subst l7 y7 z7
  obtain ⟨rfl, N7q, K7⟩ := hQ7
  have f8_0 := Nat.le_trans f6_0 K7.1
  have f8_1 := Sta_keep0 f6_1 K7
  have f8_2 := Sta_keep0 f6_2 K7
  have f8_3 := Sta_keep0 f6_3 K7
  have f8_4 := Sta_keep0 f6_4 K7
  have f8_5 := Sta_keep0 f6_5 K7
  have f8_6 := Sta_keep0 f6_6 K7
  have f8_7 := Sta_keep0 f6_7 K7
  have f8_8 := Nat.le_trans f6_8 K7.1
  have f8_9 := f6_9.keep K7
  have f8_10 := o5_0.keep K7
  have f8_11 := o5_1.keep K7 nin0
  have f8_12 := o5_2.keep K7 nin0
  have N7 := Fr.app N5 N7q
  refine Wp.back (U' := (T7.setTop (mkF m 214 #[.val (.int p0), .val (.int p1), .val (.int p2), .val (.int p3), .val (.int p4), .val (.int p5), .val (.int (4 : Int32)), .val (.int lt), .val (.int ls), .val (.int t0), .val (.int t1), .val (.int s0), .val (.int s1), .val (.int (1 : Int32)), .val (.ref tx), .val .null, .val (.ref b1), .val (.int (0 : Int32))] [(.int (0 : Int32))]))) (fun t k => st7.trans k) ?_
  refine Wp.back (U' := (T7.setTop (mkF m 224 #[.val (.int p0), .val (.int p1), .val (.int p2), .val (.int p3), .val (.int p4), .val (.int p5), .val (.int (4 : Int32)), .val (.int lt), .val (.int ls), .val (.int t0), .val (.int t1), .val (.int s0), .val (.int s1), .val (.int (1 : Int32)), .val (.ref tx), .val .null, .val (.ref b1), .val (.int (0 : Int32))] [(.int (1 : Int32))]))) (fun t k => XS.iload X7.here hx rfl (hb hby at_214) rfl (XS.icmpNo X7.here hx rfl (hb hby at_216) rfl (teq (by decide)).2 (XT.iconstV X7.here hx rfl (1 : Int32) (hb hby at_219) (by decide) (XS.goto X7.here hx rfl (pc0 := 220) (pc' := 224) rfl (hb hby at_220) (by decide) (by decide) k)))) ?_
  obtain ⟨fs, hr, hrun, hended, hend⟩ := X7.leaveW hS0 f8_8 (v := (some (.int (1 : Int32)))) (fun h => by rw [hret] at h; cases h)
  refine Wp.done (retN X7 hx (t := .boolean) hret (by simp) (hb hby at_224) hr) hrun hended ⟨_, _, rfl, ?_, hend.1, hend.2.1, hend.2.2.1, hend.2.2.2.mono (by decide) (by decide)⟩
  show QL n0 _ T7.heap _
  exact ⟨rfl, N7⟩
theorem own_t4nepd0_0 : parseMethodDescriptor "(I)Lcom/example/query_to_table/querytotable/sql/Token$Kind;" = some ⟨[.int], some (.object "com/example/query_to_table/querytotable/sql/Token$Kind")⟩ := by decide +kernel
theorem own_t4nepd0_1 : parseMethodDescriptor "(Lcom/example/query_to_table/querytotable/sql/Token$Kind;Ljava/lang/String;III)V" = some ⟨[(.object "com/example/query_to_table/querytotable/sql/Token$Kind"), (.object "java/lang/String"), .int, .int, .int], none⟩ := by decide +kernel
theorem own_t4nepd0_2 : parseMethodDescriptor "(Ljava/lang/String;)Z" = some ⟨[(.object "java/lang/String")], some .boolean⟩ := by decide +kernel
set_option maxRecDepth 65536 in
set_option maxHeartbeats 40000000 in
theorem own_t4ne {p : Program} {l : Launch} {e : Env} {s : State} {m : MethodId} {args : Array Value} {below : List Frame} {meth : Method} {c : Code} {T0 : State} {locs : List Loc} {Z : State} {a0 : Array Value} {hA : Heap} {n0 : Nat} {vm0 : Vm} {kk : Nat} (p0 p1 p2 p3 p4 p5 lt ls t0 t1 s0 s1 : Int32) (u0 u1 u2 u3 u4 u5 : Addr) (cs : Int32) (tx br : Addr) (a1 a2 : Addr) (k1 : ClassId) (k2 : ClassId) (z1 : Int32) (z2 : Int32) (vs1 : List Value) (vs2 : List Value) (dv1 : Value) (dv2 : Value)
    (hx : p.tables.exec = Jvm.exec) (hw : ∀ d ∈ tables_1, d.before a0 Z = true) (hby : c.code = code) (hml : c.maxLocals = 18) (hret : meth.sig.returnType = ret) (hlk : meth.locks = false) (hZ : Z.Warmed39 (s.setVm vm0).vm) (hown : (s.setVm vm0).vm.findClass "com/example/query_to_table/querytotable/sql/TokenIsSymbolPinLaw" = some m.cls) (X0 : Stand p l e room_1 (s.setVm vm0) m args below meth c T0 locs 12 64) (e0 : T0.heap = hA) (N0 : Fr n0 locs) (Z0 : n0 ≤ hA.size) (hS0 : s.Since vm0 kk) (hk0 : kk ≤ hA.size) (SK0 : Sta Z hA "com/example/query_to_table/querytotable/sql/Token$Kind" "WORD" "Lcom/example/query_to_table/querytotable/sql/Token$Kind;" (.ref u0)) (SK1 : Sta Z hA "com/example/query_to_table/querytotable/sql/Token$Kind" "QUOTED_NAME" "Lcom/example/query_to_table/querytotable/sql/Token$Kind;" (.ref u1)) (SK2 : Sta Z hA "com/example/query_to_table/querytotable/sql/Token$Kind" "STRING" "Lcom/example/query_to_table/querytotable/sql/Token$Kind;" (.ref u2)) (SK3 : Sta Z hA "com/example/query_to_table/querytotable/sql/Token$Kind" "NUMBER" "Lcom/example/query_to_table/querytotable/sql/Token$Kind;" (.ref u3)) (SK4 : Sta Z hA "com/example/query_to_table/querytotable/sql/Token$Kind" "SYMBOL" "Lcom/example/query_to_table/querytotable/sql/Token$Kind;" (.ref u4)) (SK5 : Sta Z hA "com/example/query_to_table/querytotable/sql/Token$Kind" "UNCLOSED" "Lcom/example/query_to_table/querytotable/sql/Token$Kind;" (.ref u5)) (PC : Sta Z hA "java/lang/String" "COMPACT_STRINGS" "Z" (.int cs)) (B0 : Exa Z hA tx "java/lang/String") (B1 : Fld Z hA tx "java/lang/String" "value" "[B" (.ref a1)) (B2 : Fld Z hA tx "java/lang/String" "coder" "B" (.int (0 : Int32))) (B3 : Arv Z hA a1 k1 .byte z1 vs1 dv1) (B4 : Exa Z hA br "java/lang/String") (B5 : Fld Z hA br "java/lang/String" "value" "[B" (.ref a2)) (B6 : Fld Z hA br "java/lang/String" "coder" "B" (.int (0 : Int32))) (B7 : Arv Z hA a2 k2 .byte z2 vs2 dv2) (hcs : ¬ cs = (0 : Int32)) (nu0 : u0 ≠ u4) (nu1 : u1 ≠ u4) (nu2 : u2 ≠ u4) (nu3 : u3 ≠ u4) (nu5 : u5 ≠ u4) (n_tb : tx ≠ br) (hz0 : ¬ lt = ls) (hz : ¬ z1 = z2) :
    Wp p e below (fun o s₂ => ∃ v L, o = .returned v ∧ QL n0 v s₂.heap L ∧ ReturnedEndW s o s₂ L 24 1152) (T0.setTop (mkF m 137 #[.val (.int p0), .val (.int p1), .val (.int p2), .val (.int p3), .val (.int p4), .val (.int p5), .val (.int (4 : Int32)), .val (.int lt), .val (.int ls), .val (.int t0), .val (.int t1), .val (.int s0), .val (.int s1), .val (.int (0 : Int32)), .val (.ref tx), .val (.ref br), .unset, .unset] [])) := by
  have hEL : EW Z a0 consts_1 := own_EW hw
  have wS := own_wS hw
  obtain ⟨T1, h1, X1, e1, E1, A1, D1, -, st1⟩ := newO X0 hx hZ hown (hw _ (List.mem_of_getElem? (i := 27) rfl)) (hw _ (List.mem_of_getElem? (i := 28) rfl)) (hw _ (List.mem_of_getElem? (i := 29) rfl)) e0 (g := (mkF m 137 #[.val (.int p0), .val (.int p1), .val (.int p2), .val (.int p3), .val (.int p4), .val (.int p5), .val (.int (4 : Int32)), .val (.int lt), .val (.int ls), .val (.int t0), .val (.int t1), .val (.int s0), .val (.int s1), .val (.int (0 : Int32)), .val (.ref tx), .val (.ref br), .unset, .unset] [])) rfl (hb hby at_137) (by decide) (by decide)
  obtain ⟨b1, g1⟩ : ∃ z, z = hA.size := ⟨_, rfl⟩
  rw [← g1] at A1 D1 st1
  have ne_tx_b1 : tx ≠ b1 := Nat.ne_of_lt (Nat.lt_of_lt_of_le B0.lt (Nat.le_of_eq g1.symm))
  have ne_a1_b1 : a1 ≠ b1 := Nat.ne_of_lt (Nat.lt_of_lt_of_le B3.lt (Nat.le_of_eq g1.symm))
  have ne_br_b1 : br ≠ b1 := Nat.ne_of_lt (Nat.lt_of_lt_of_le B4.lt (Nat.le_of_eq g1.symm))
  have ne_a2_b1 : a2 ≠ b1 := Nat.ne_of_lt (Nat.lt_of_lt_of_le B7.lt (Nat.le_of_eq g1.symm))
  have g_b1 : n0 ≤ b1 := Nat.le_trans Z0 (Nat.le_of_eq g1.symm)
  have f2_0 := Nat.le_trans Z0 E1.1
  have f2_1 := SK0.ext E1
  have f2_2 := SK1.ext E1
  have f2_3 := SK2.ext E1
  have f2_4 := SK3.ext E1
  have f2_5 := SK4.ext E1
  have f2_6 := SK5.ext E1
  have f2_7 := PC.ext E1
  have f2_8 := Nat.le_trans hk0 E1.1
  have f2_9 := B0.ext E1
  have f2_10 := B1.ext E1
  have f2_11 := B2.ext E1
  have f2_12 := B3.ext E1
  have f2_13 := B4.ext E1
  have f2_14 := B5.ext E1
  have f2_15 := B6.ext E1
  have f2_16 := B7.ext E1
  have F1_46 : Fld Z h1 b1 "com/example/query_to_table/querytotable/sql/Token" "kind" "Lcom/example/query_to_table/querytotable/sql/Token$Kind;" .null := D1 (Or.inr (hw _ (List.mem_of_getElem? (i := 46) rfl))) (ty := (.object "com/example/query_to_table/querytotable/sql/Token$Kind")) (by decide)
  have F1_48 : Fld Z h1 b1 "com/example/query_to_table/querytotable/sql/Token" "text" "Ljava/lang/String;" .null := D1 (Or.inr (hw _ (List.mem_of_getElem? (i := 48) rfl))) (ty := (.object "java/lang/String")) (by decide)
  have F1_50 : Fld Z h1 b1 "com/example/query_to_table/querytotable/sql/Token" "line" "I" (.int (0 : Int32)) := D1 (Or.inr (hw _ (List.mem_of_getElem? (i := 50) rfl))) (ty := .int) (by decide)
  have F1_52 : Fld Z h1 b1 "com/example/query_to_table/querytotable/sql/Token" "start" "I" (.int (0 : Int32)) := D1 (Or.inr (hw _ (List.mem_of_getElem? (i := 52) rfl))) (ty := .int) (by decide)
  have F1_54 : Fld Z h1 b1 "com/example/query_to_table/querytotable/sql/Token" "end" "I" (.int (0 : Int32)) := D1 (Or.inr (hw _ (List.mem_of_getElem? (i := 54) rfl))) (ty := .int) (by decide)
  refine Wp.back (U' := (T1.setTop (mkF m 140 #[.val (.int p0), .val (.int p1), .val (.int p2), .val (.int p3), .val (.int p4), .val (.int p5), .val (.int (4 : Int32)), .val (.int lt), .val (.int ls), .val (.int t0), .val (.int t1), .val (.int s0), .val (.int s1), .val (.int (0 : Int32)), .val (.ref tx), .val (.ref br), .unset, .unset] [(.ref b1)]))) st1 ?_
  refine Wp.back (U' := (T1.setTop (mkF m 143 #[.val (.int p0), .val (.int p1), .val (.int p2), .val (.int p3), .val (.int p4), .val (.int p5), .val (.int (4 : Int32)), .val (.int lt), .val (.int ls), .val (.int t0), .val (.int t1), .val (.int s0), .val (.int s1), .val (.int (0 : Int32)), .val (.ref tx), .val (.ref br), .unset, .unset] [(.int (4 : Int32)), (.ref b1), (.ref b1)]))) (fun t k => XS.dup X1.here hx rfl (hb hby at_140) rfl rfl (XS.iload X1.here hx rfl (hb hby at_141) rfl k)) ?_
  obtain ⟨_, _, ⟨T3, L3, k3, n3⟩, -, X3, ⟨Lc3, hQ3, l3, y3, z3⟩, st3⟩ := Jvm.LawKit.callS X1 hx (y := (⟨"com/example/query_to_table/querytotable/sql/TokenIsSymbolPinLaw", "kindOf", "(I)Lcom/example/query_to_table/querytotable/sql/Token$Kind;"⟩ : MethodName)) hown (mvT hZ (hw _ (List.mem_of_getElem? (i := 30) rfl))) (mvT hZ (hw _ (List.mem_of_getElem? (i := 31) rfl))) (mvT hZ (hw _ (List.mem_of_getElem? (i := 3) rfl))) (mvT hZ (hw _ (List.mem_of_getElem? (i := 32) rfl))) (by decide) (backOf (W := 2) (rm_k4 l Z a0 hw []  u4 h1 n0 f2_0 f2_5) hZ (hw _ (List.mem_of_getElem? (i := 32) rfl)) (hw _ (List.mem_of_getElem? (i := 3) rfl)) (by decide) (by decide)) (g := (mkF m 143 #[.val (.int p0), .val (.int p1), .val (.int p2), .val (.int p3), .val (.int p4), .val (.int p5), .val (.int (4 : Int32)), .val (.int lt), .val (.int ls), .val (.int t0), .val (.int t1), .val (.int s0), .val (.int s1), .val (.int (0 : Int32)), .val (.ref tx), .val (.ref br), .unset, .unset] [(.int (4 : Int32)), (.ref b1), (.ref b1)])) rfl (by rw [hml]; rfl) (argsL := [(.int (4 : Int32))]) (rest := [(.ref b1), (.ref b1)]) (lenOf own_t4nepd0_0 rfl) rfl (by show 2 * 0 + _ ≤ _; exact Nat.le_of_eq rfl) (hb hby at_143) (fun _ _ => ⟨rfl, e1, (by decide : 13 + 0 ≤ _), (by decide : 69 + 0 ≤ _)⟩)
  dsimp only [Pt.U, Pt.locs, Pt.cells, Pt.slots] at X3 l3 y3 z3 st3 hQ3
  subst l3 y3 z3
  obtain ⟨rfl, N3q, K3⟩ := hQ3
  have f4_0 := Nat.le_trans f2_0 K3.1
  have f4_1 := Sta_keep0 f2_1 K3
  have f4_2 := Sta_keep0 f2_2 K3
  have f4_3 := Sta_keep0 f2_3 K3
  have f4_4 := Sta_keep0 f2_4 K3
  have f4_5 := Sta_keep0 f2_5 K3
  have f4_6 := Sta_keep0 f2_6 K3
  have f4_7 := Sta_keep0 f2_7 K3
  have f4_8 := Nat.le_trans f2_8 K3.1
  have f4_9 := f2_9.keep K3
  have f4_10 := f2_10.keep K3 nin0
  have f4_11 := f2_11.keep K3 nin0
  have f4_12 := f2_12.keep K3 nin0
  have f4_13 := f2_13.keep K3
  have f4_14 := f2_14.keep K3 nin0
  have f4_15 := f2_15.keep K3 nin0
  have f4_16 := f2_16.keep K3 nin0
  have f4_17 := A1.keep K3
  have f4_18 := F1_46.keep K3 nin0
  have f4_19 := F1_48.keep K3 nin0
  have f4_20 := F1_50.keep K3 nin0
  have f4_21 := F1_52.keep K3 nin0
  have f4_22 := F1_54.keep K3 nin0
  have N3 := Fr.app N0 N3q
  refine Wp.back (U' := (T3.setTop (mkF m 146 #[.val (.int p0), .val (.int p1), .val (.int p2), .val (.int p3), .val (.int p4), .val (.int p5), .val (.int (4 : Int32)), .val (.int lt), .val (.int ls), .val (.int t0), .val (.int t1), .val (.int s0), .val (.int s1), .val (.int (0 : Int32)), .val (.ref tx), .val (.ref br), .unset, .unset] [(.ref u4), (.ref b1), (.ref b1)]))) st3 ?_
  refine Wp.back (U' := (T3.setTop (mkF m 151 #[.val (.int p0), .val (.int p1), .val (.int p2), .val (.int p3), .val (.int p4), .val (.int p5), .val (.int (4 : Int32)), .val (.int lt), .val (.int ls), .val (.int t0), .val (.int t1), .val (.int s0), .val (.int s1), .val (.int (0 : Int32)), .val (.ref tx), .val (.ref br), .unset, .unset] [(.int p3), (.int p2), (.int p1), (.ref tx), (.ref u4), (.ref b1), (.ref b1)]))) (fun t k => XS.aload X3.here hx rfl (hb hby at_146) rfl rfl (XS.iloadN X3.here hx rfl (hb hby at_148) rfl (XS.iloadN X3.here hx rfl (hb hby at_149) rfl (XS.iloadN X3.here hx rfl (hb hby at_150) rfl k)))) ?_
  obtain ⟨_, _, ⟨T5, L5, k5, n5⟩, -, X5, ⟨Lc5, hQ5, l5, y5, z5⟩, st5⟩ := X3.specialBack hx (y := (⟨"com/example/query_to_table/querytotable/sql/Token", "<init>", "(Lcom/example/query_to_table/querytotable/sql/Token$Kind;Ljava/lang/String;III)V"⟩ : MethodName)) rfl hown (mvT hZ (hw _ (List.mem_of_getElem? (i := 36) rfl))) (mvT hZ (hw _ (List.mem_of_getElem? (i := 37) rfl))) (mvT hZ (hw _ (List.mem_of_getElem? (i := 38) rfl))) (by decide) (backOf (W := 1) (rm_ti l Z a0 hw [] b1 u4 tx p1 p2 p3  T3.heap n0 f4_0 f4_17 f4_18 f4_19 f4_20 f4_21 f4_22 g_b1) hZ (hw _ (List.mem_of_getElem? (i := 38) rfl)) (hw _ (List.mem_of_getElem? (i := 29) rfl)) (by decide) (by decide)) (g := (mkF m 151 #[.val (.int p0), .val (.int p1), .val (.int p2), .val (.int p3), .val (.int p4), .val (.int p5), .val (.int (4 : Int32)), .val (.int lt), .val (.int ls), .val (.int t0), .val (.int t1), .val (.int s0), .val (.int s1), .val (.int (0 : Int32)), .val (.ref tx), .val (.ref br), .unset, .unset] [(.int p3), (.int p2), (.int p1), (.ref tx), (.ref u4), (.ref b1), (.ref b1)])) rfl (by rw [hml]; rfl) (Steps.refl _) (a := b1) (argsL := [(.ref u4), (.ref tx), (.int p1), (.int p2), (.int p3)]) (rest := [(.ref b1)]) (lenOf own_t4nepd0_1 rfl) rfl (by show 2 * 0 + _ ≤ _; exact Nat.le_of_eq rfl) (hb hby at_151) (fun _ _ => ⟨rfl, rfl, (by decide : 13 + 0 ≤ _), (by decide : 69 + 0 ≤ _)⟩)
  dsimp only [Pt.U, Pt.locs, Pt.cells, Pt.slots] at X5 l5 y5 z5 st5 hQ5
  subst l5 y5 z5
  obtain ⟨rfl, N5q, K5, o5_0, o5_1, o5_2⟩ := hQ5
  have f6_0 := Nat.le_trans f4_0 K5.1
  have f6_1 := Sta_keep f4_1 K5 (allS (Exa_ns f4_17) all0)
  have f6_2 := Sta_keep f4_2 K5 (allS (Exa_ns f4_17) all0)
  have f6_3 := Sta_keep f4_3 K5 (allS (Exa_ns f4_17) all0)
  have f6_4 := Sta_keep f4_4 K5 (allS (Exa_ns f4_17) all0)
  have f6_5 := Sta_keep f4_5 K5 (allS (Exa_ns f4_17) all0)
  have f6_6 := Sta_keep f4_6 K5 (allS (Exa_ns f4_17) all0)
  have f6_7 := Sta_keep f4_7 K5 (allS (Exa_ns f4_17) all0)
  have f6_8 := Nat.le_trans f4_8 K5.1
  have f6_9 := f4_9.keep K5
  have f6_10 := f4_10.keep K5 (ninS ne_tx_b1 nin0)
  have f6_11 := f4_11.keep K5 (ninS ne_tx_b1 nin0)
  have f6_12 := f4_12.keep K5 (ninS ne_a1_b1 nin0)
  have f6_13 := f4_13.keep K5
  have f6_14 := f4_14.keep K5 (ninS ne_br_b1 nin0)
  have f6_15 := f4_15.keep K5 (ninS ne_br_b1 nin0)
  have f6_16 := f4_16.keep K5 (ninS ne_a2_b1 nin0)
  have f6_17 := f4_17.keep K5
  have N5 := Fr.app N3 N5q
  refine Wp.back (U' := (T5.setTop (mkF m 154 #[.val (.int p0), .val (.int p1), .val (.int p2), .val (.int p3), .val (.int p4), .val (.int p5), .val (.int (4 : Int32)), .val (.int lt), .val (.int ls), .val (.int t0), .val (.int t1), .val (.int s0), .val (.int s1), .val (.int (0 : Int32)), .val (.ref tx), .val (.ref br), .unset, .unset] [(.ref b1)]))) (fun t k => st5.trans k) ?_
  refine Wp.back (U' := (T5.setTop (mkF m 209 #[.val (.int p0), .val (.int p1), .val (.int p2), .val (.int p3), .val (.int p4), .val (.int p5), .val (.int (4 : Int32)), .val (.int lt), .val (.int ls), .val (.int t0), .val (.int t1), .val (.int s0), .val (.int s1), .val (.int (0 : Int32)), .val (.ref tx), .val (.ref br), .val (.ref b1), .val (.int (0 : Int32))] [(.ref b1)]))) (fun t k => XS.astore X5.here hx rfl (hb hby at_154) rfl rfl (l' := #[.val (.int p0), .val (.int p1), .val (.int p2), .val (.int p3), .val (.int p4), .val (.int p5), .val (.int (4 : Int32)), .val (.int lt), .val (.int ls), .val (.int t0), .val (.int t1), .val (.int s0), .val (.int s1), .val (.int (0 : Int32)), .val (.ref tx), .val (.ref br), .val (.ref b1), .unset]) rfl (XS.iload X5.here hx rfl (hb hby at_156) rfl (XS.ifNo X5.here hx rfl (hb hby at_158) rfl ((if0 _ _).trans (teq (by decide)).2) (XS.iload X5.here hx rfl (hb hby at_161) rfl (XT.iconstV X5.here hx rfl (4 : Int32) (hb hby at_163) (by decide) (XS.icmpNo X5.here hx rfl (hb hby at_164) rfl (teq (by decide)).2 (XS.iload X5.here hx rfl (hb hby at_167) rfl (XS.iload X5.here hx rfl (hb hby at_169) rfl (XS.icmpYes X5.here hx rfl (pc0 := 171) (pc' := 204) rfl (hb hby at_171) rfl (feq hz0).2 (by decide) (by decide) (XT.iconstV X5.here hx rfl (0 : Int32) (hb hby at_204) (by decide) (XS.istore X5.here hx rfl (hb hby at_205) rfl (l' := #[.val (.int p0), .val (.int p1), .val (.int p2), .val (.int p3), .val (.int p4), .val (.int p5), .val (.int (4 : Int32)), .val (.int lt), .val (.int ls), .val (.int t0), .val (.int t1), .val (.int s0), .val (.int s1), .val (.int (0 : Int32)), .val (.ref tx), .val (.ref br), .val (.ref b1), .val (.int (0 : Int32))]) rfl (XS.aload X5.here hx rfl (hb hby at_207) rfl rfl k)))))))))))) ?_
  refine Wp.back (U' := (T5.setTop (mkF m 211 #[.val (.int p0), .val (.int p1), .val (.int p2), .val (.int p3), .val (.int p4), .val (.int p5), .val (.int (4 : Int32)), .val (.int lt), .val (.int ls), .val (.int t0), .val (.int t1), .val (.int s0), .val (.int s1), .val (.int (0 : Int32)), .val (.ref tx), .val (.ref br), .val (.ref b1), .val (.int (0 : Int32))] [(.ref br), (.ref b1)]))) (fun t k => XS.aload X5.here hx rfl (hb hby at_209) rfl rfl k) ?_
  obtain ⟨cq7, kq7, q7a, q7b, q7c⟩ := isOf hZ rfl o5_0
  obtain ⟨_, _, ⟨T7, L7, k7, n7⟩, -, X7, ⟨Lc7, hQ7, l7, y7, z7⟩, st7⟩ := X5.virtualBack hx (y := (⟨"com/example/query_to_table/querytotable/sql/Token", "isSymbol", "(Ljava/lang/String;)Z"⟩ : MethodName)) (z := (⟨"com/example/query_to_table/querytotable/sql/Token", "isSymbol", "(Ljava/lang/String;)Z"⟩ : MethodName)) hown (mvT hZ (hw _ (List.mem_of_getElem? (i := 55) rfl))) (mvT hZ (hw _ (List.mem_of_getElem? (i := 56) rfl))) (notFace_of_selects (args := #[]) (mvT hZ (hw _ (List.mem_of_getElem? (i := 58) rfl)))) (mvT hZ (hw _ (List.mem_of_getElem? (i := 58) rfl))) (mvT hZ (hw _ (List.mem_of_getElem? (i := 57) rfl))) (by decide) (backOf (W := 0) (rm_is_ne l Z a0 hw [] b1 br tx u4 a1 a2 cs k1 k2 z1 z2 vs1 vs2 dv1 dv2 T5.heap n0 f6_0 o5_1 f6_5 o5_2 f6_9 f6_10 f6_11 f6_12 f6_13 f6_14 f6_15 f6_16 f6_7 n_tb hz hcs) hZ (hw _ (List.mem_of_getElem? (i := 59) rfl)) (hw _ (List.mem_of_getElem? (i := 29) rfl)) (by decide) (by decide)) q7a q7c (g := (mkF m 211 #[.val (.int p0), .val (.int p1), .val (.int p2), .val (.int p3), .val (.int p4), .val (.int p5), .val (.int (4 : Int32)), .val (.int lt), .val (.int ls), .val (.int t0), .val (.int t1), .val (.int s0), .val (.int s1), .val (.int (0 : Int32)), .val (.ref tx), .val (.ref br), .val (.ref b1), .val (.int (0 : Int32))] [(.ref br), (.ref b1)])) rfl (by rw [hml]; rfl) (Steps.refl _) (argsL := [(.ref br)]) (rest := []) (lenOf own_t4nepd0_2 rfl) rfl (by show 2 * 0 + _ ≤ _; exact Nat.le_of_eq rfl) (hb hby at_211) (fun _ _ => ⟨rfl, rfl, (by decide : 13 + 0 ≤ _), (by decide : 69 + 0 ≤ _)⟩)
  dsimp only [Pt.U, Pt.locs, Pt.cells, Pt.slots] at X7 l7 y7 z7 st7 hQ7
  subst l7 y7 z7
  obtain ⟨rfl, N7q, K7⟩ := hQ7
  have f8_0 := Nat.le_trans f6_0 K7.1
  have f8_1 := Sta_keep0 f6_1 K7
  have f8_2 := Sta_keep0 f6_2 K7
  have f8_3 := Sta_keep0 f6_3 K7
  have f8_4 := Sta_keep0 f6_4 K7
  have f8_5 := Sta_keep0 f6_5 K7
  have f8_6 := Sta_keep0 f6_6 K7
  have f8_7 := Sta_keep0 f6_7 K7
  have f8_8 := Nat.le_trans f6_8 K7.1
  have f8_9 := f6_9.keep K7
  have f8_10 := f6_10.keep K7 nin0
  have f8_11 := f6_11.keep K7 nin0
  have f8_12 := f6_12.keep K7 nin0
  have f8_13 := f6_13.keep K7
  have f8_14 := f6_14.keep K7 nin0
  have f8_15 := f6_15.keep K7 nin0
  have f8_16 := f6_16.keep K7 nin0
  have f8_17 := o5_0.keep K7
  have f8_18 := o5_1.keep K7 nin0
  have f8_19 := o5_2.keep K7 nin0
  have N7 := Fr.app N5 N7q
  refine Wp.back (U' := (T7.setTop (mkF m 214 #[.val (.int p0), .val (.int p1), .val (.int p2), .val (.int p3), .val (.int p4), .val (.int p5), .val (.int (4 : Int32)), .val (.int lt), .val (.int ls), .val (.int t0), .val (.int t1), .val (.int s0), .val (.int s1), .val (.int (0 : Int32)), .val (.ref tx), .val (.ref br), .val (.ref b1), .val (.int (0 : Int32))] [(.int (0 : Int32))]))) (fun t k => st7.trans k) ?_
  refine Wp.back (U' := (T7.setTop (mkF m 224 #[.val (.int p0), .val (.int p1), .val (.int p2), .val (.int p3), .val (.int p4), .val (.int p5), .val (.int (4 : Int32)), .val (.int lt), .val (.int ls), .val (.int t0), .val (.int t1), .val (.int s0), .val (.int s1), .val (.int (0 : Int32)), .val (.ref tx), .val (.ref br), .val (.ref b1), .val (.int (0 : Int32))] [(.int (1 : Int32))]))) (fun t k => XS.iload X7.here hx rfl (hb hby at_214) rfl (XS.icmpNo X7.here hx rfl (hb hby at_216) rfl (teq (by decide)).2 (XT.iconstV X7.here hx rfl (1 : Int32) (hb hby at_219) (by decide) (XS.goto X7.here hx rfl (pc0 := 220) (pc' := 224) rfl (hb hby at_220) (by decide) (by decide) k)))) ?_
  obtain ⟨fs, hr, hrun, hended, hend⟩ := X7.leaveW hS0 f8_8 (v := (some (.int (1 : Int32)))) (fun h => by rw [hret] at h; cases h)
  refine Wp.done (retN X7 hx (t := .boolean) hret (by simp) (hb hby at_224) hr) hrun hended ⟨_, _, rfl, ?_, hend.1, hend.2.1, hend.2.2.1, hend.2.2.2.mono (by decide) (by decide)⟩
  show QL n0 _ T7.heap _
  exact ⟨rfl, N7⟩
theorem own_t4_0pd0_0 : parseMethodDescriptor "(I)Lcom/example/query_to_table/querytotable/sql/Token$Kind;" = some ⟨[.int], some (.object "com/example/query_to_table/querytotable/sql/Token$Kind")⟩ := by decide +kernel
theorem own_t4_0pd0_1 : parseMethodDescriptor "(Lcom/example/query_to_table/querytotable/sql/Token$Kind;Ljava/lang/String;III)V" = some ⟨[(.object "com/example/query_to_table/querytotable/sql/Token$Kind"), (.object "java/lang/String"), .int, .int, .int], none⟩ := by decide +kernel
theorem own_t4_0pd0_2 : parseMethodDescriptor "(Ljava/lang/String;)Z" = some ⟨[(.object "java/lang/String")], some .boolean⟩ := by decide +kernel
set_option maxRecDepth 65536 in
set_option maxHeartbeats 40000000 in
theorem own_t4_0 {p : Program} {l : Launch} {e : Env} {s : State} {m : MethodId} {args : Array Value} {below : List Frame} {meth : Method} {c : Code} {T0 : State} {locs : List Loc} {Z : State} {a0 : Array Value} {hA : Heap} {n0 : Nat} {vm0 : Vm} {kk : Nat} (p0 p1 p2 p3 p4 p5 t0 t1 s0 s1 : Int32) (u0 u1 u2 u3 u4 u5 : Addr) (cs : Int32) (tx br : Addr) (a1 a2 : Addr) (k1 k2 : ClassId)
    (hx : p.tables.exec = Jvm.exec) (hw : ∀ d ∈ tables_1, d.before a0 Z = true) (hby : c.code = code) (hml : c.maxLocals = 18) (hret : meth.sig.returnType = ret) (hlk : meth.locks = false) (hZ : Z.Warmed39 (s.setVm vm0).vm) (hown : (s.setVm vm0).vm.findClass "com/example/query_to_table/querytotable/sql/TokenIsSymbolPinLaw" = some m.cls) (X0 : Stand p l e room_1 (s.setVm vm0) m args below meth c T0 locs 12 64) (e0 : T0.heap = hA) (N0 : Fr n0 locs) (Z0 : n0 ≤ hA.size) (hS0 : s.Since vm0 kk) (hk0 : kk ≤ hA.size) (SK0 : Sta Z hA "com/example/query_to_table/querytotable/sql/Token$Kind" "WORD" "Lcom/example/query_to_table/querytotable/sql/Token$Kind;" (.ref u0)) (SK1 : Sta Z hA "com/example/query_to_table/querytotable/sql/Token$Kind" "QUOTED_NAME" "Lcom/example/query_to_table/querytotable/sql/Token$Kind;" (.ref u1)) (SK2 : Sta Z hA "com/example/query_to_table/querytotable/sql/Token$Kind" "STRING" "Lcom/example/query_to_table/querytotable/sql/Token$Kind;" (.ref u2)) (SK3 : Sta Z hA "com/example/query_to_table/querytotable/sql/Token$Kind" "NUMBER" "Lcom/example/query_to_table/querytotable/sql/Token$Kind;" (.ref u3)) (SK4 : Sta Z hA "com/example/query_to_table/querytotable/sql/Token$Kind" "SYMBOL" "Lcom/example/query_to_table/querytotable/sql/Token$Kind;" (.ref u4)) (SK5 : Sta Z hA "com/example/query_to_table/querytotable/sql/Token$Kind" "UNCLOSED" "Lcom/example/query_to_table/querytotable/sql/Token$Kind;" (.ref u5)) (PC : Sta Z hA "java/lang/String" "COMPACT_STRINGS" "Z" (.int cs)) (B0 : Exa Z hA tx "java/lang/String") (B1 : Fld Z hA tx "java/lang/String" "value" "[B" (.ref a1)) (B2 : Fld Z hA tx "java/lang/String" "coder" "B" (.int (0 : Int32))) (B3 : Arv Z hA a1 k1 .byte (0 : Int32) [] (.int (0 : Int32))) (B4 : Exa Z hA br "java/lang/String") (B5 : Fld Z hA br "java/lang/String" "value" "[B" (.ref a2)) (B6 : Fld Z hA br "java/lang/String" "coder" "B" (.int (0 : Int32))) (B7 : Arv Z hA a2 k2 .byte (0 : Int32) [] (.int (0 : Int32))) (hcs : ¬ cs = (0 : Int32)) (nu0 : u0 ≠ u4) (nu1 : u1 ≠ u4) (nu2 : u2 ≠ u4) (nu3 : u3 ≠ u4) (nu5 : u5 ≠ u4) (n_tb : tx ≠ br) (ht0 : 0 ≤ t0.toInt ∧ t0.toInt ≤ 255) (ht1 : 0 ≤ t1.toInt ∧ t1.toInt ≤ 255) (hs0 : 0 ≤ s0.toInt ∧ s0.toInt ≤ 255) (hs1 : 0 ≤ s1.toInt ∧ s1.toInt ≤ 255) :
    Wp p e below (fun o s₂ => ∃ v L, o = .returned v ∧ QL n0 v s₂.heap L ∧ ReturnedEndW s o s₂ L 24 1152) (T0.setTop (mkF m 137 #[.val (.int p0), .val (.int p1), .val (.int p2), .val (.int p3), .val (.int p4), .val (.int p5), .val (.int (4 : Int32)), .val (.int (0 : Int32)), .val (.int (0 : Int32)), .val (.int t0), .val (.int t1), .val (.int s0), .val (.int s1), .val (.int (0 : Int32)), .val (.ref tx), .val (.ref br), .unset, .unset] [])) := by
  have hEL : EW Z a0 consts_1 := own_EW hw
  have wS := own_wS hw
  obtain ⟨T1, h1, X1, e1, E1, A1, D1, -, st1⟩ := newO X0 hx hZ hown (hw _ (List.mem_of_getElem? (i := 27) rfl)) (hw _ (List.mem_of_getElem? (i := 28) rfl)) (hw _ (List.mem_of_getElem? (i := 29) rfl)) e0 (g := (mkF m 137 #[.val (.int p0), .val (.int p1), .val (.int p2), .val (.int p3), .val (.int p4), .val (.int p5), .val (.int (4 : Int32)), .val (.int (0 : Int32)), .val (.int (0 : Int32)), .val (.int t0), .val (.int t1), .val (.int s0), .val (.int s1), .val (.int (0 : Int32)), .val (.ref tx), .val (.ref br), .unset, .unset] [])) rfl (hb hby at_137) (by decide) (by decide)
  obtain ⟨b1, g1⟩ : ∃ z, z = hA.size := ⟨_, rfl⟩
  rw [← g1] at A1 D1 st1
  have ne_tx_b1 : tx ≠ b1 := Nat.ne_of_lt (Nat.lt_of_lt_of_le B0.lt (Nat.le_of_eq g1.symm))
  have ne_a1_b1 : a1 ≠ b1 := Nat.ne_of_lt (Nat.lt_of_lt_of_le B3.lt (Nat.le_of_eq g1.symm))
  have ne_br_b1 : br ≠ b1 := Nat.ne_of_lt (Nat.lt_of_lt_of_le B4.lt (Nat.le_of_eq g1.symm))
  have ne_a2_b1 : a2 ≠ b1 := Nat.ne_of_lt (Nat.lt_of_lt_of_le B7.lt (Nat.le_of_eq g1.symm))
  have g_b1 : n0 ≤ b1 := Nat.le_trans Z0 (Nat.le_of_eq g1.symm)
  have f2_0 := Nat.le_trans Z0 E1.1
  have f2_1 := SK0.ext E1
  have f2_2 := SK1.ext E1
  have f2_3 := SK2.ext E1
  have f2_4 := SK3.ext E1
  have f2_5 := SK4.ext E1
  have f2_6 := SK5.ext E1
  have f2_7 := PC.ext E1
  have f2_8 := Nat.le_trans hk0 E1.1
  have f2_9 := B0.ext E1
  have f2_10 := B1.ext E1
  have f2_11 := B2.ext E1
  have f2_12 := B3.ext E1
  have f2_13 := B4.ext E1
  have f2_14 := B5.ext E1
  have f2_15 := B6.ext E1
  have f2_16 := B7.ext E1
  have F1_46 : Fld Z h1 b1 "com/example/query_to_table/querytotable/sql/Token" "kind" "Lcom/example/query_to_table/querytotable/sql/Token$Kind;" .null := D1 (Or.inr (hw _ (List.mem_of_getElem? (i := 46) rfl))) (ty := (.object "com/example/query_to_table/querytotable/sql/Token$Kind")) (by decide)
  have F1_48 : Fld Z h1 b1 "com/example/query_to_table/querytotable/sql/Token" "text" "Ljava/lang/String;" .null := D1 (Or.inr (hw _ (List.mem_of_getElem? (i := 48) rfl))) (ty := (.object "java/lang/String")) (by decide)
  have F1_50 : Fld Z h1 b1 "com/example/query_to_table/querytotable/sql/Token" "line" "I" (.int (0 : Int32)) := D1 (Or.inr (hw _ (List.mem_of_getElem? (i := 50) rfl))) (ty := .int) (by decide)
  have F1_52 : Fld Z h1 b1 "com/example/query_to_table/querytotable/sql/Token" "start" "I" (.int (0 : Int32)) := D1 (Or.inr (hw _ (List.mem_of_getElem? (i := 52) rfl))) (ty := .int) (by decide)
  have F1_54 : Fld Z h1 b1 "com/example/query_to_table/querytotable/sql/Token" "end" "I" (.int (0 : Int32)) := D1 (Or.inr (hw _ (List.mem_of_getElem? (i := 54) rfl))) (ty := .int) (by decide)
  refine Wp.back (U' := (T1.setTop (mkF m 140 #[.val (.int p0), .val (.int p1), .val (.int p2), .val (.int p3), .val (.int p4), .val (.int p5), .val (.int (4 : Int32)), .val (.int (0 : Int32)), .val (.int (0 : Int32)), .val (.int t0), .val (.int t1), .val (.int s0), .val (.int s1), .val (.int (0 : Int32)), .val (.ref tx), .val (.ref br), .unset, .unset] [(.ref b1)]))) st1 ?_
  refine Wp.back (U' := (T1.setTop (mkF m 143 #[.val (.int p0), .val (.int p1), .val (.int p2), .val (.int p3), .val (.int p4), .val (.int p5), .val (.int (4 : Int32)), .val (.int (0 : Int32)), .val (.int (0 : Int32)), .val (.int t0), .val (.int t1), .val (.int s0), .val (.int s1), .val (.int (0 : Int32)), .val (.ref tx), .val (.ref br), .unset, .unset] [(.int (4 : Int32)), (.ref b1), (.ref b1)]))) (fun t k => XS.dup X1.here hx rfl (hb hby at_140) rfl rfl (XS.iload X1.here hx rfl (hb hby at_141) rfl k)) ?_
  obtain ⟨_, _, ⟨T3, L3, k3, n3⟩, -, X3, ⟨Lc3, hQ3, l3, y3, z3⟩, st3⟩ := Jvm.LawKit.callS X1 hx (y := (⟨"com/example/query_to_table/querytotable/sql/TokenIsSymbolPinLaw", "kindOf", "(I)Lcom/example/query_to_table/querytotable/sql/Token$Kind;"⟩ : MethodName)) hown (mvT hZ (hw _ (List.mem_of_getElem? (i := 30) rfl))) (mvT hZ (hw _ (List.mem_of_getElem? (i := 31) rfl))) (mvT hZ (hw _ (List.mem_of_getElem? (i := 3) rfl))) (mvT hZ (hw _ (List.mem_of_getElem? (i := 32) rfl))) (by decide) (backOf (W := 2) (rm_k4 l Z a0 hw []  u4 h1 n0 f2_0 f2_5) hZ (hw _ (List.mem_of_getElem? (i := 32) rfl)) (hw _ (List.mem_of_getElem? (i := 3) rfl)) (by decide) (by decide)) (g := (mkF m 143 #[.val (.int p0), .val (.int p1), .val (.int p2), .val (.int p3), .val (.int p4), .val (.int p5), .val (.int (4 : Int32)), .val (.int (0 : Int32)), .val (.int (0 : Int32)), .val (.int t0), .val (.int t1), .val (.int s0), .val (.int s1), .val (.int (0 : Int32)), .val (.ref tx), .val (.ref br), .unset, .unset] [(.int (4 : Int32)), (.ref b1), (.ref b1)])) rfl (by rw [hml]; rfl) (argsL := [(.int (4 : Int32))]) (rest := [(.ref b1), (.ref b1)]) (lenOf own_t4_0pd0_0 rfl) rfl (by show 2 * 0 + _ ≤ _; exact Nat.le_of_eq rfl) (hb hby at_143) (fun _ _ => ⟨rfl, e1, (by decide : 13 + 0 ≤ _), (by decide : 69 + 0 ≤ _)⟩)
  dsimp only [Pt.U, Pt.locs, Pt.cells, Pt.slots] at X3 l3 y3 z3 st3 hQ3
  subst l3 y3 z3
  obtain ⟨rfl, N3q, K3⟩ := hQ3
  have f4_0 := Nat.le_trans f2_0 K3.1
  have f4_1 := Sta_keep0 f2_1 K3
  have f4_2 := Sta_keep0 f2_2 K3
  have f4_3 := Sta_keep0 f2_3 K3
  have f4_4 := Sta_keep0 f2_4 K3
  have f4_5 := Sta_keep0 f2_5 K3
  have f4_6 := Sta_keep0 f2_6 K3
  have f4_7 := Sta_keep0 f2_7 K3
  have f4_8 := Nat.le_trans f2_8 K3.1
  have f4_9 := f2_9.keep K3
  have f4_10 := f2_10.keep K3 nin0
  have f4_11 := f2_11.keep K3 nin0
  have f4_12 := f2_12.keep K3 nin0
  have f4_13 := f2_13.keep K3
  have f4_14 := f2_14.keep K3 nin0
  have f4_15 := f2_15.keep K3 nin0
  have f4_16 := f2_16.keep K3 nin0
  have f4_17 := A1.keep K3
  have f4_18 := F1_46.keep K3 nin0
  have f4_19 := F1_48.keep K3 nin0
  have f4_20 := F1_50.keep K3 nin0
  have f4_21 := F1_52.keep K3 nin0
  have f4_22 := F1_54.keep K3 nin0
  have N3 := Fr.app N0 N3q
  refine Wp.back (U' := (T3.setTop (mkF m 146 #[.val (.int p0), .val (.int p1), .val (.int p2), .val (.int p3), .val (.int p4), .val (.int p5), .val (.int (4 : Int32)), .val (.int (0 : Int32)), .val (.int (0 : Int32)), .val (.int t0), .val (.int t1), .val (.int s0), .val (.int s1), .val (.int (0 : Int32)), .val (.ref tx), .val (.ref br), .unset, .unset] [(.ref u4), (.ref b1), (.ref b1)]))) st3 ?_
  refine Wp.back (U' := (T3.setTop (mkF m 151 #[.val (.int p0), .val (.int p1), .val (.int p2), .val (.int p3), .val (.int p4), .val (.int p5), .val (.int (4 : Int32)), .val (.int (0 : Int32)), .val (.int (0 : Int32)), .val (.int t0), .val (.int t1), .val (.int s0), .val (.int s1), .val (.int (0 : Int32)), .val (.ref tx), .val (.ref br), .unset, .unset] [(.int p3), (.int p2), (.int p1), (.ref tx), (.ref u4), (.ref b1), (.ref b1)]))) (fun t k => XS.aload X3.here hx rfl (hb hby at_146) rfl rfl (XS.iloadN X3.here hx rfl (hb hby at_148) rfl (XS.iloadN X3.here hx rfl (hb hby at_149) rfl (XS.iloadN X3.here hx rfl (hb hby at_150) rfl k)))) ?_
  obtain ⟨_, _, ⟨T5, L5, k5, n5⟩, -, X5, ⟨Lc5, hQ5, l5, y5, z5⟩, st5⟩ := X3.specialBack hx (y := (⟨"com/example/query_to_table/querytotable/sql/Token", "<init>", "(Lcom/example/query_to_table/querytotable/sql/Token$Kind;Ljava/lang/String;III)V"⟩ : MethodName)) rfl hown (mvT hZ (hw _ (List.mem_of_getElem? (i := 36) rfl))) (mvT hZ (hw _ (List.mem_of_getElem? (i := 37) rfl))) (mvT hZ (hw _ (List.mem_of_getElem? (i := 38) rfl))) (by decide) (backOf (W := 1) (rm_ti l Z a0 hw [] b1 u4 tx p1 p2 p3  T3.heap n0 f4_0 f4_17 f4_18 f4_19 f4_20 f4_21 f4_22 g_b1) hZ (hw _ (List.mem_of_getElem? (i := 38) rfl)) (hw _ (List.mem_of_getElem? (i := 29) rfl)) (by decide) (by decide)) (g := (mkF m 151 #[.val (.int p0), .val (.int p1), .val (.int p2), .val (.int p3), .val (.int p4), .val (.int p5), .val (.int (4 : Int32)), .val (.int (0 : Int32)), .val (.int (0 : Int32)), .val (.int t0), .val (.int t1), .val (.int s0), .val (.int s1), .val (.int (0 : Int32)), .val (.ref tx), .val (.ref br), .unset, .unset] [(.int p3), (.int p2), (.int p1), (.ref tx), (.ref u4), (.ref b1), (.ref b1)])) rfl (by rw [hml]; rfl) (Steps.refl _) (a := b1) (argsL := [(.ref u4), (.ref tx), (.int p1), (.int p2), (.int p3)]) (rest := [(.ref b1)]) (lenOf own_t4_0pd0_1 rfl) rfl (by show 2 * 0 + _ ≤ _; exact Nat.le_of_eq rfl) (hb hby at_151) (fun _ _ => ⟨rfl, rfl, (by decide : 13 + 0 ≤ _), (by decide : 69 + 0 ≤ _)⟩)
  dsimp only [Pt.U, Pt.locs, Pt.cells, Pt.slots] at X5 l5 y5 z5 st5 hQ5
  subst l5 y5 z5
  obtain ⟨rfl, N5q, K5, o5_0, o5_1, o5_2⟩ := hQ5
  have f6_0 := Nat.le_trans f4_0 K5.1
  have f6_1 := Sta_keep f4_1 K5 (allS (Exa_ns f4_17) all0)
  have f6_2 := Sta_keep f4_2 K5 (allS (Exa_ns f4_17) all0)
  have f6_3 := Sta_keep f4_3 K5 (allS (Exa_ns f4_17) all0)
  have f6_4 := Sta_keep f4_4 K5 (allS (Exa_ns f4_17) all0)
  have f6_5 := Sta_keep f4_5 K5 (allS (Exa_ns f4_17) all0)
  have f6_6 := Sta_keep f4_6 K5 (allS (Exa_ns f4_17) all0)
  have f6_7 := Sta_keep f4_7 K5 (allS (Exa_ns f4_17) all0)
  have f6_8 := Nat.le_trans f4_8 K5.1
  have f6_9 := f4_9.keep K5
  have f6_10 := f4_10.keep K5 (ninS ne_tx_b1 nin0)
  have f6_11 := f4_11.keep K5 (ninS ne_tx_b1 nin0)
  have f6_12 := f4_12.keep K5 (ninS ne_a1_b1 nin0)
  have f6_13 := f4_13.keep K5
  have f6_14 := f4_14.keep K5 (ninS ne_br_b1 nin0)
  have f6_15 := f4_15.keep K5 (ninS ne_br_b1 nin0)
  have f6_16 := f4_16.keep K5 (ninS ne_a2_b1 nin0)
  have f6_17 := f4_17.keep K5
  have N5 := Fr.app N3 N5q
  refine Wp.back (U' := (T5.setTop (mkF m 154 #[.val (.int p0), .val (.int p1), .val (.int p2), .val (.int p3), .val (.int p4), .val (.int p5), .val (.int (4 : Int32)), .val (.int (0 : Int32)), .val (.int (0 : Int32)), .val (.int t0), .val (.int t1), .val (.int s0), .val (.int s1), .val (.int (0 : Int32)), .val (.ref tx), .val (.ref br), .unset, .unset] [(.ref b1)]))) (fun t k => st5.trans k) ?_
  refine Wp.back (U' := (T5.setTop (mkF m 187 #[.val (.int p0), .val (.int p1), .val (.int p2), .val (.int p3), .val (.int p4), .val (.int p5), .val (.int (4 : Int32)), .val (.int (0 : Int32)), .val (.int (0 : Int32)), .val (.int t0), .val (.int t1), .val (.int s0), .val (.int s1), .val (.int (0 : Int32)), .val (.ref tx), .val (.ref br), .val (.ref b1), .unset] []))) (fun t k => XS.astore X5.here hx rfl (hb hby at_154) rfl rfl (l' := #[.val (.int p0), .val (.int p1), .val (.int p2), .val (.int p3), .val (.int p4), .val (.int p5), .val (.int (4 : Int32)), .val (.int (0 : Int32)), .val (.int (0 : Int32)), .val (.int t0), .val (.int t1), .val (.int s0), .val (.int s1), .val (.int (0 : Int32)), .val (.ref tx), .val (.ref br), .val (.ref b1), .unset]) rfl (XS.iload X5.here hx rfl (hb hby at_156) rfl (XS.ifNo X5.here hx rfl (hb hby at_158) rfl ((if0 _ _).trans (teq (by decide)).2) (XS.iload X5.here hx rfl (hb hby at_161) rfl (XT.iconstV X5.here hx rfl (4 : Int32) (hb hby at_163) (by decide) (XS.icmpNo X5.here hx rfl (hb hby at_164) rfl (teq (by decide)).2 (XS.iload X5.here hx rfl (hb hby at_167) rfl (XS.iload X5.here hx rfl (hb hby at_169) rfl (XS.icmpNo X5.here hx rfl (hb hby at_171) rfl (teq (by decide)).2 (XS.iload X5.here hx rfl (hb hby at_174) rfl (XT.iconstV X5.here hx rfl (1 : Int32) (hb hby at_176) (by decide) (XS.icmpYes X5.here hx rfl (pc0 := 177) (pc' := 187) rfl (hb hby at_177) rfl (tlt (by decide)).1 (by decide) (by decide) k)))))))))))) ?_
  refine Wp.back (U' := (T5.setTop (mkF m 211 #[.val (.int p0), .val (.int p1), .val (.int p2), .val (.int p3), .val (.int p4), .val (.int p5), .val (.int (4 : Int32)), .val (.int (0 : Int32)), .val (.int (0 : Int32)), .val (.int t0), .val (.int t1), .val (.int s0), .val (.int s1), .val (.int (0 : Int32)), .val (.ref tx), .val (.ref br), .val (.ref b1), .val (.int (1 : Int32))] [(.ref br), (.ref b1)]))) (fun t k => XS.iload X5.here hx rfl (hb hby at_187) rfl (XT.iconstV X5.here hx rfl (2 : Int32) (hb hby at_189) (by decide) (XS.icmpYes X5.here hx rfl (pc0 := 190) (pc' := 200) rfl (hb hby at_190) rfl (tlt (by decide)).1 (by decide) (by decide) (XT.iconstV X5.here hx rfl (1 : Int32) (hb hby at_200) (by decide) (XS.goto X5.here hx rfl (pc0 := 201) (pc' := 205) rfl (hb hby at_201) (by decide) (by decide) (XS.istore X5.here hx rfl (hb hby at_205) rfl (l' := #[.val (.int p0), .val (.int p1), .val (.int p2), .val (.int p3), .val (.int p4), .val (.int p5), .val (.int (4 : Int32)), .val (.int (0 : Int32)), .val (.int (0 : Int32)), .val (.int t0), .val (.int t1), .val (.int s0), .val (.int s1), .val (.int (0 : Int32)), .val (.ref tx), .val (.ref br), .val (.ref b1), .val (.int (1 : Int32))]) rfl (XS.aload X5.here hx rfl (hb hby at_207) rfl rfl (XS.aload X5.here hx rfl (hb hby at_209) rfl rfl k)))))))) ?_
  obtain ⟨cq7, kq7, q7a, q7b, q7c⟩ := isOf hZ rfl o5_0
  obtain ⟨_, _, ⟨T7, L7, k7, n7⟩, -, X7, ⟨Lc7, hQ7, l7, y7, z7⟩, st7⟩ := X5.virtualBack hx (y := (⟨"com/example/query_to_table/querytotable/sql/Token", "isSymbol", "(Ljava/lang/String;)Z"⟩ : MethodName)) (z := (⟨"com/example/query_to_table/querytotable/sql/Token", "isSymbol", "(Ljava/lang/String;)Z"⟩ : MethodName)) hown (mvT hZ (hw _ (List.mem_of_getElem? (i := 55) rfl))) (mvT hZ (hw _ (List.mem_of_getElem? (i := 56) rfl))) (notFace_of_selects (args := #[]) (mvT hZ (hw _ (List.mem_of_getElem? (i := 58) rfl)))) (mvT hZ (hw _ (List.mem_of_getElem? (i := 58) rfl))) (mvT hZ (hw _ (List.mem_of_getElem? (i := 57) rfl))) (by decide) (backOf (W := 0) (rm_is0_0 l Z a0 hw [] b1 br tx u4 a1 k1 a2 k2 cs T5.heap n0 f6_0 o5_1 f6_5 o5_2 f6_9 f6_10 f6_11 f6_12 f6_13 f6_14 f6_15 f6_16 f6_7 n_tb hcs) hZ (hw _ (List.mem_of_getElem? (i := 59) rfl)) (hw _ (List.mem_of_getElem? (i := 29) rfl)) (by decide) (by decide)) q7a q7c (g := (mkF m 211 #[.val (.int p0), .val (.int p1), .val (.int p2), .val (.int p3), .val (.int p4), .val (.int p5), .val (.int (4 : Int32)), .val (.int (0 : Int32)), .val (.int (0 : Int32)), .val (.int t0), .val (.int t1), .val (.int s0), .val (.int s1), .val (.int (0 : Int32)), .val (.ref tx), .val (.ref br), .val (.ref b1), .val (.int (1 : Int32))] [(.ref br), (.ref b1)])) rfl (by rw [hml]; rfl) (Steps.refl _) (argsL := [(.ref br)]) (rest := []) (lenOf own_t4_0pd0_2 rfl) rfl (by show 2 * 0 + _ ≤ _; exact Nat.le_of_eq rfl) (hb hby at_211) (fun _ _ => ⟨rfl, rfl, (by decide : 13 + 0 ≤ _), (by decide : 69 + 0 ≤ _)⟩)
  dsimp only [Pt.U, Pt.locs, Pt.cells, Pt.slots] at X7 l7 y7 z7 st7 hQ7
  subst l7 y7 z7
  obtain ⟨rfl, N7q, K7⟩ := hQ7
  have f8_0 := Nat.le_trans f6_0 K7.1
  have f8_1 := Sta_keep0 f6_1 K7
  have f8_2 := Sta_keep0 f6_2 K7
  have f8_3 := Sta_keep0 f6_3 K7
  have f8_4 := Sta_keep0 f6_4 K7
  have f8_5 := Sta_keep0 f6_5 K7
  have f8_6 := Sta_keep0 f6_6 K7
  have f8_7 := Sta_keep0 f6_7 K7
  have f8_8 := Nat.le_trans f6_8 K7.1
  have f8_9 := f6_9.keep K7
  have f8_10 := f6_10.keep K7 nin0
  have f8_11 := f6_11.keep K7 nin0
  have f8_12 := f6_12.keep K7 nin0
  have f8_13 := f6_13.keep K7
  have f8_14 := f6_14.keep K7 nin0
  have f8_15 := f6_15.keep K7 nin0
  have f8_16 := f6_16.keep K7 nin0
  have f8_17 := o5_0.keep K7
  have f8_18 := o5_1.keep K7 nin0
  have f8_19 := o5_2.keep K7 nin0
  have N7 := Fr.app N5 N7q
  refine Wp.back (U' := (T7.setTop (mkF m 214 #[.val (.int p0), .val (.int p1), .val (.int p2), .val (.int p3), .val (.int p4), .val (.int p5), .val (.int (4 : Int32)), .val (.int (0 : Int32)), .val (.int (0 : Int32)), .val (.int t0), .val (.int t1), .val (.int s0), .val (.int s1), .val (.int (0 : Int32)), .val (.ref tx), .val (.ref br), .val (.ref b1), .val (.int (1 : Int32))] [(.int (1 : Int32))]))) (fun t k => st7.trans k) ?_
  refine Wp.back (U' := (T7.setTop (mkF m 224 #[.val (.int p0), .val (.int p1), .val (.int p2), .val (.int p3), .val (.int p4), .val (.int p5), .val (.int (4 : Int32)), .val (.int (0 : Int32)), .val (.int (0 : Int32)), .val (.int t0), .val (.int t1), .val (.int s0), .val (.int s1), .val (.int (0 : Int32)), .val (.ref tx), .val (.ref br), .val (.ref b1), .val (.int (1 : Int32))] [(.int (1 : Int32))]))) (fun t k => XS.iload X7.here hx rfl (hb hby at_214) rfl (XS.icmpNo X7.here hx rfl (hb hby at_216) rfl (teq (by decide)).2 (XT.iconstV X7.here hx rfl (1 : Int32) (hb hby at_219) (by decide) (XS.goto X7.here hx rfl (pc0 := 220) (pc' := 224) rfl (hb hby at_220) (by decide) (by decide) k)))) ?_
  obtain ⟨fs, hr, hrun, hended, hend⟩ := X7.leaveW hS0 f8_8 (v := (some (.int (1 : Int32)))) (fun h => by rw [hret] at h; cases h)
  refine Wp.done (retN X7 hx (t := .boolean) hret (by simp) (hb hby at_224) hr) hrun hended ⟨_, _, rfl, ?_, hend.1, hend.2.1, hend.2.2.1, hend.2.2.2.mono (by decide) (by decide)⟩
  show QL n0 _ T7.heap _
  exact ⟨rfl, N7⟩
theorem own_t4_1pd0_0 : parseMethodDescriptor "(I)Lcom/example/query_to_table/querytotable/sql/Token$Kind;" = some ⟨[.int], some (.object "com/example/query_to_table/querytotable/sql/Token$Kind")⟩ := by decide +kernel
theorem own_t4_1pd0_1 : parseMethodDescriptor "(Lcom/example/query_to_table/querytotable/sql/Token$Kind;Ljava/lang/String;III)V" = some ⟨[(.object "com/example/query_to_table/querytotable/sql/Token$Kind"), (.object "java/lang/String"), .int, .int, .int], none⟩ := by decide +kernel
theorem own_t4_1pd0_2 : parseMethodDescriptor "(Ljava/lang/String;)Z" = some ⟨[(.object "java/lang/String")], some .boolean⟩ := by decide +kernel
set_option maxRecDepth 65536 in
set_option maxHeartbeats 40000000 in
theorem own_t4_1 {p : Program} {l : Launch} {e : Env} {s : State} {m : MethodId} {args : Array Value} {below : List Frame} {meth : Method} {c : Code} {T0 : State} {locs : List Loc} {Z : State} {a0 : Array Value} {hA : Heap} {n0 : Nat} {vm0 : Vm} {kk : Nat} (p0 p1 p2 p3 p4 p5 t0 t1 s0 s1 : Int32) (u0 u1 u2 u3 u4 u5 : Addr) (cs : Int32) (tx br : Addr) (a1 a2 : Addr) (k1 k2 : ClassId)
    (hx : p.tables.exec = Jvm.exec) (hw : ∀ d ∈ tables_1, d.before a0 Z = true) (hby : c.code = code) (hml : c.maxLocals = 18) (hret : meth.sig.returnType = ret) (hlk : meth.locks = false) (hZ : Z.Warmed39 (s.setVm vm0).vm) (hown : (s.setVm vm0).vm.findClass "com/example/query_to_table/querytotable/sql/TokenIsSymbolPinLaw" = some m.cls) (X0 : Stand p l e room_1 (s.setVm vm0) m args below meth c T0 locs 12 64) (e0 : T0.heap = hA) (N0 : Fr n0 locs) (Z0 : n0 ≤ hA.size) (hS0 : s.Since vm0 kk) (hk0 : kk ≤ hA.size) (SK0 : Sta Z hA "com/example/query_to_table/querytotable/sql/Token$Kind" "WORD" "Lcom/example/query_to_table/querytotable/sql/Token$Kind;" (.ref u0)) (SK1 : Sta Z hA "com/example/query_to_table/querytotable/sql/Token$Kind" "QUOTED_NAME" "Lcom/example/query_to_table/querytotable/sql/Token$Kind;" (.ref u1)) (SK2 : Sta Z hA "com/example/query_to_table/querytotable/sql/Token$Kind" "STRING" "Lcom/example/query_to_table/querytotable/sql/Token$Kind;" (.ref u2)) (SK3 : Sta Z hA "com/example/query_to_table/querytotable/sql/Token$Kind" "NUMBER" "Lcom/example/query_to_table/querytotable/sql/Token$Kind;" (.ref u3)) (SK4 : Sta Z hA "com/example/query_to_table/querytotable/sql/Token$Kind" "SYMBOL" "Lcom/example/query_to_table/querytotable/sql/Token$Kind;" (.ref u4)) (SK5 : Sta Z hA "com/example/query_to_table/querytotable/sql/Token$Kind" "UNCLOSED" "Lcom/example/query_to_table/querytotable/sql/Token$Kind;" (.ref u5)) (PC : Sta Z hA "java/lang/String" "COMPACT_STRINGS" "Z" (.int cs)) (B0 : Exa Z hA tx "java/lang/String") (B1 : Fld Z hA tx "java/lang/String" "value" "[B" (.ref a1)) (B2 : Fld Z hA tx "java/lang/String" "coder" "B" (.int (0 : Int32))) (B3 : Arv Z hA a1 k1 .byte (1 : Int32) [(.int (nar .byte ((nar .char t0)).toInt8.toInt32))] (.int (0 : Int32))) (B4 : Exa Z hA br "java/lang/String") (B5 : Fld Z hA br "java/lang/String" "value" "[B" (.ref a2)) (B6 : Fld Z hA br "java/lang/String" "coder" "B" (.int (0 : Int32))) (B7 : Arv Z hA a2 k2 .byte (1 : Int32) [(.int (nar .byte ((nar .char s0)).toInt8.toInt32))] (.int (0 : Int32))) (hcs : ¬ cs = (0 : Int32)) (nu0 : u0 ≠ u4) (nu1 : u1 ≠ u4) (nu2 : u2 ≠ u4) (nu3 : u3 ≠ u4) (nu5 : u5 ≠ u4) (n_tb : tx ≠ br) (ht0 : 0 ≤ t0.toInt ∧ t0.toInt ≤ 255) (ht1 : 0 ≤ t1.toInt ∧ t1.toInt ≤ 255) (hs0 : 0 ≤ s0.toInt ∧ s0.toInt ≤ 255) (hs1 : 0 ≤ s1.toInt ∧ s1.toInt ≤ 255) :
    Wp p e below (fun o s₂ => ∃ v L, o = .returned v ∧ QL n0 v s₂.heap L ∧ ReturnedEndW s o s₂ L 24 1152) (T0.setTop (mkF m 137 #[.val (.int p0), .val (.int p1), .val (.int p2), .val (.int p3), .val (.int p4), .val (.int p5), .val (.int (4 : Int32)), .val (.int (1 : Int32)), .val (.int (1 : Int32)), .val (.int t0), .val (.int t1), .val (.int s0), .val (.int s1), .val (.int (0 : Int32)), .val (.ref tx), .val (.ref br), .unset, .unset] [])) := by
  have hEL : EW Z a0 consts_1 := own_EW hw
  have wS := own_wS hw
  obtain ⟨T1, h1, X1, e1, E1, A1, D1, -, st1⟩ := newO X0 hx hZ hown (hw _ (List.mem_of_getElem? (i := 27) rfl)) (hw _ (List.mem_of_getElem? (i := 28) rfl)) (hw _ (List.mem_of_getElem? (i := 29) rfl)) e0 (g := (mkF m 137 #[.val (.int p0), .val (.int p1), .val (.int p2), .val (.int p3), .val (.int p4), .val (.int p5), .val (.int (4 : Int32)), .val (.int (1 : Int32)), .val (.int (1 : Int32)), .val (.int t0), .val (.int t1), .val (.int s0), .val (.int s1), .val (.int (0 : Int32)), .val (.ref tx), .val (.ref br), .unset, .unset] [])) rfl (hb hby at_137) (by decide) (by decide)
  obtain ⟨b1, g1⟩ : ∃ z, z = hA.size := ⟨_, rfl⟩
  rw [← g1] at A1 D1 st1
  have ne_tx_b1 : tx ≠ b1 := Nat.ne_of_lt (Nat.lt_of_lt_of_le B0.lt (Nat.le_of_eq g1.symm))
  have ne_a1_b1 : a1 ≠ b1 := Nat.ne_of_lt (Nat.lt_of_lt_of_le B3.lt (Nat.le_of_eq g1.symm))
  have ne_br_b1 : br ≠ b1 := Nat.ne_of_lt (Nat.lt_of_lt_of_le B4.lt (Nat.le_of_eq g1.symm))
  have ne_a2_b1 : a2 ≠ b1 := Nat.ne_of_lt (Nat.lt_of_lt_of_le B7.lt (Nat.le_of_eq g1.symm))
  have g_b1 : n0 ≤ b1 := Nat.le_trans Z0 (Nat.le_of_eq g1.symm)
  have f2_0 := Nat.le_trans Z0 E1.1
  have f2_1 := SK0.ext E1
  have f2_2 := SK1.ext E1
  have f2_3 := SK2.ext E1
  have f2_4 := SK3.ext E1
  have f2_5 := SK4.ext E1
  have f2_6 := SK5.ext E1
  have f2_7 := PC.ext E1
  have f2_8 := Nat.le_trans hk0 E1.1
  have f2_9 := B0.ext E1
  have f2_10 := B1.ext E1
  have f2_11 := B2.ext E1
  have f2_12 := B3.ext E1
  have f2_13 := B4.ext E1
  have f2_14 := B5.ext E1
  have f2_15 := B6.ext E1
  have f2_16 := B7.ext E1
  have F1_46 : Fld Z h1 b1 "com/example/query_to_table/querytotable/sql/Token" "kind" "Lcom/example/query_to_table/querytotable/sql/Token$Kind;" .null := D1 (Or.inr (hw _ (List.mem_of_getElem? (i := 46) rfl))) (ty := (.object "com/example/query_to_table/querytotable/sql/Token$Kind")) (by decide)
  have F1_48 : Fld Z h1 b1 "com/example/query_to_table/querytotable/sql/Token" "text" "Ljava/lang/String;" .null := D1 (Or.inr (hw _ (List.mem_of_getElem? (i := 48) rfl))) (ty := (.object "java/lang/String")) (by decide)
  have F1_50 : Fld Z h1 b1 "com/example/query_to_table/querytotable/sql/Token" "line" "I" (.int (0 : Int32)) := D1 (Or.inr (hw _ (List.mem_of_getElem? (i := 50) rfl))) (ty := .int) (by decide)
  have F1_52 : Fld Z h1 b1 "com/example/query_to_table/querytotable/sql/Token" "start" "I" (.int (0 : Int32)) := D1 (Or.inr (hw _ (List.mem_of_getElem? (i := 52) rfl))) (ty := .int) (by decide)
  have F1_54 : Fld Z h1 b1 "com/example/query_to_table/querytotable/sql/Token" "end" "I" (.int (0 : Int32)) := D1 (Or.inr (hw _ (List.mem_of_getElem? (i := 54) rfl))) (ty := .int) (by decide)
  refine Wp.back (U' := (T1.setTop (mkF m 140 #[.val (.int p0), .val (.int p1), .val (.int p2), .val (.int p3), .val (.int p4), .val (.int p5), .val (.int (4 : Int32)), .val (.int (1 : Int32)), .val (.int (1 : Int32)), .val (.int t0), .val (.int t1), .val (.int s0), .val (.int s1), .val (.int (0 : Int32)), .val (.ref tx), .val (.ref br), .unset, .unset] [(.ref b1)]))) st1 ?_
  refine Wp.back (U' := (T1.setTop (mkF m 143 #[.val (.int p0), .val (.int p1), .val (.int p2), .val (.int p3), .val (.int p4), .val (.int p5), .val (.int (4 : Int32)), .val (.int (1 : Int32)), .val (.int (1 : Int32)), .val (.int t0), .val (.int t1), .val (.int s0), .val (.int s1), .val (.int (0 : Int32)), .val (.ref tx), .val (.ref br), .unset, .unset] [(.int (4 : Int32)), (.ref b1), (.ref b1)]))) (fun t k => XS.dup X1.here hx rfl (hb hby at_140) rfl rfl (XS.iload X1.here hx rfl (hb hby at_141) rfl k)) ?_
  obtain ⟨_, _, ⟨T3, L3, k3, n3⟩, -, X3, ⟨Lc3, hQ3, l3, y3, z3⟩, st3⟩ := Jvm.LawKit.callS X1 hx (y := (⟨"com/example/query_to_table/querytotable/sql/TokenIsSymbolPinLaw", "kindOf", "(I)Lcom/example/query_to_table/querytotable/sql/Token$Kind;"⟩ : MethodName)) hown (mvT hZ (hw _ (List.mem_of_getElem? (i := 30) rfl))) (mvT hZ (hw _ (List.mem_of_getElem? (i := 31) rfl))) (mvT hZ (hw _ (List.mem_of_getElem? (i := 3) rfl))) (mvT hZ (hw _ (List.mem_of_getElem? (i := 32) rfl))) (by decide) (backOf (W := 2) (rm_k4 l Z a0 hw []  u4 h1 n0 f2_0 f2_5) hZ (hw _ (List.mem_of_getElem? (i := 32) rfl)) (hw _ (List.mem_of_getElem? (i := 3) rfl)) (by decide) (by decide)) (g := (mkF m 143 #[.val (.int p0), .val (.int p1), .val (.int p2), .val (.int p3), .val (.int p4), .val (.int p5), .val (.int (4 : Int32)), .val (.int (1 : Int32)), .val (.int (1 : Int32)), .val (.int t0), .val (.int t1), .val (.int s0), .val (.int s1), .val (.int (0 : Int32)), .val (.ref tx), .val (.ref br), .unset, .unset] [(.int (4 : Int32)), (.ref b1), (.ref b1)])) rfl (by rw [hml]; rfl) (argsL := [(.int (4 : Int32))]) (rest := [(.ref b1), (.ref b1)]) (lenOf own_t4_1pd0_0 rfl) rfl (by show 2 * 0 + _ ≤ _; exact Nat.le_of_eq rfl) (hb hby at_143) (fun _ _ => ⟨rfl, e1, (by decide : 13 + 0 ≤ _), (by decide : 69 + 0 ≤ _)⟩)
  dsimp only [Pt.U, Pt.locs, Pt.cells, Pt.slots] at X3 l3 y3 z3 st3 hQ3
  subst l3 y3 z3
  obtain ⟨rfl, N3q, K3⟩ := hQ3
  have f4_0 := Nat.le_trans f2_0 K3.1
  have f4_1 := Sta_keep0 f2_1 K3
  have f4_2 := Sta_keep0 f2_2 K3
  have f4_3 := Sta_keep0 f2_3 K3
  have f4_4 := Sta_keep0 f2_4 K3
  have f4_5 := Sta_keep0 f2_5 K3
  have f4_6 := Sta_keep0 f2_6 K3
  have f4_7 := Sta_keep0 f2_7 K3
  have f4_8 := Nat.le_trans f2_8 K3.1
  have f4_9 := f2_9.keep K3
  have f4_10 := f2_10.keep K3 nin0
  have f4_11 := f2_11.keep K3 nin0
  have f4_12 := f2_12.keep K3 nin0
  have f4_13 := f2_13.keep K3
  have f4_14 := f2_14.keep K3 nin0
  have f4_15 := f2_15.keep K3 nin0
  have f4_16 := f2_16.keep K3 nin0
  have f4_17 := A1.keep K3
  have f4_18 := F1_46.keep K3 nin0
  have f4_19 := F1_48.keep K3 nin0
  have f4_20 := F1_50.keep K3 nin0
  have f4_21 := F1_52.keep K3 nin0
  have f4_22 := F1_54.keep K3 nin0
  have N3 := Fr.app N0 N3q
  refine Wp.back (U' := (T3.setTop (mkF m 146 #[.val (.int p0), .val (.int p1), .val (.int p2), .val (.int p3), .val (.int p4), .val (.int p5), .val (.int (4 : Int32)), .val (.int (1 : Int32)), .val (.int (1 : Int32)), .val (.int t0), .val (.int t1), .val (.int s0), .val (.int s1), .val (.int (0 : Int32)), .val (.ref tx), .val (.ref br), .unset, .unset] [(.ref u4), (.ref b1), (.ref b1)]))) st3 ?_
  refine Wp.back (U' := (T3.setTop (mkF m 151 #[.val (.int p0), .val (.int p1), .val (.int p2), .val (.int p3), .val (.int p4), .val (.int p5), .val (.int (4 : Int32)), .val (.int (1 : Int32)), .val (.int (1 : Int32)), .val (.int t0), .val (.int t1), .val (.int s0), .val (.int s1), .val (.int (0 : Int32)), .val (.ref tx), .val (.ref br), .unset, .unset] [(.int p3), (.int p2), (.int p1), (.ref tx), (.ref u4), (.ref b1), (.ref b1)]))) (fun t k => XS.aload X3.here hx rfl (hb hby at_146) rfl rfl (XS.iloadN X3.here hx rfl (hb hby at_148) rfl (XS.iloadN X3.here hx rfl (hb hby at_149) rfl (XS.iloadN X3.here hx rfl (hb hby at_150) rfl k)))) ?_
  obtain ⟨_, _, ⟨T5, L5, k5, n5⟩, -, X5, ⟨Lc5, hQ5, l5, y5, z5⟩, st5⟩ := X3.specialBack hx (y := (⟨"com/example/query_to_table/querytotable/sql/Token", "<init>", "(Lcom/example/query_to_table/querytotable/sql/Token$Kind;Ljava/lang/String;III)V"⟩ : MethodName)) rfl hown (mvT hZ (hw _ (List.mem_of_getElem? (i := 36) rfl))) (mvT hZ (hw _ (List.mem_of_getElem? (i := 37) rfl))) (mvT hZ (hw _ (List.mem_of_getElem? (i := 38) rfl))) (by decide) (backOf (W := 1) (rm_ti l Z a0 hw [] b1 u4 tx p1 p2 p3  T3.heap n0 f4_0 f4_17 f4_18 f4_19 f4_20 f4_21 f4_22 g_b1) hZ (hw _ (List.mem_of_getElem? (i := 38) rfl)) (hw _ (List.mem_of_getElem? (i := 29) rfl)) (by decide) (by decide)) (g := (mkF m 151 #[.val (.int p0), .val (.int p1), .val (.int p2), .val (.int p3), .val (.int p4), .val (.int p5), .val (.int (4 : Int32)), .val (.int (1 : Int32)), .val (.int (1 : Int32)), .val (.int t0), .val (.int t1), .val (.int s0), .val (.int s1), .val (.int (0 : Int32)), .val (.ref tx), .val (.ref br), .unset, .unset] [(.int p3), (.int p2), (.int p1), (.ref tx), (.ref u4), (.ref b1), (.ref b1)])) rfl (by rw [hml]; rfl) (Steps.refl _) (a := b1) (argsL := [(.ref u4), (.ref tx), (.int p1), (.int p2), (.int p3)]) (rest := [(.ref b1)]) (lenOf own_t4_1pd0_1 rfl) rfl (by show 2 * 0 + _ ≤ _; exact Nat.le_of_eq rfl) (hb hby at_151) (fun _ _ => ⟨rfl, rfl, (by decide : 13 + 0 ≤ _), (by decide : 69 + 0 ≤ _)⟩)
  dsimp only [Pt.U, Pt.locs, Pt.cells, Pt.slots] at X5 l5 y5 z5 st5 hQ5
  subst l5 y5 z5
  obtain ⟨rfl, N5q, K5, o5_0, o5_1, o5_2⟩ := hQ5
  have f6_0 := Nat.le_trans f4_0 K5.1
  have f6_1 := Sta_keep f4_1 K5 (allS (Exa_ns f4_17) all0)
  have f6_2 := Sta_keep f4_2 K5 (allS (Exa_ns f4_17) all0)
  have f6_3 := Sta_keep f4_3 K5 (allS (Exa_ns f4_17) all0)
  have f6_4 := Sta_keep f4_4 K5 (allS (Exa_ns f4_17) all0)
  have f6_5 := Sta_keep f4_5 K5 (allS (Exa_ns f4_17) all0)
  have f6_6 := Sta_keep f4_6 K5 (allS (Exa_ns f4_17) all0)
  have f6_7 := Sta_keep f4_7 K5 (allS (Exa_ns f4_17) all0)
  have f6_8 := Nat.le_trans f4_8 K5.1
  have f6_9 := f4_9.keep K5
  have f6_10 := f4_10.keep K5 (ninS ne_tx_b1 nin0)
  have f6_11 := f4_11.keep K5 (ninS ne_tx_b1 nin0)
  have f6_12 := f4_12.keep K5 (ninS ne_a1_b1 nin0)
  have f6_13 := f4_13.keep K5
  have f6_14 := f4_14.keep K5 (ninS ne_br_b1 nin0)
  have f6_15 := f4_15.keep K5 (ninS ne_br_b1 nin0)
  have f6_16 := f4_16.keep K5 (ninS ne_a2_b1 nin0)
  have f6_17 := f4_17.keep K5
  have N5 := Fr.app N3 N5q
  refine Wp.back (U' := (T5.setTop (mkF m 154 #[.val (.int p0), .val (.int p1), .val (.int p2), .val (.int p3), .val (.int p4), .val (.int p5), .val (.int (4 : Int32)), .val (.int (1 : Int32)), .val (.int (1 : Int32)), .val (.int t0), .val (.int t1), .val (.int s0), .val (.int s1), .val (.int (0 : Int32)), .val (.ref tx), .val (.ref br), .unset, .unset] [(.ref b1)]))) (fun t k => st5.trans k) ?_
  refine Wp.back (U' := (T5.setTop (mkF m 180 #[.val (.int p0), .val (.int p1), .val (.int p2), .val (.int p3), .val (.int p4), .val (.int p5), .val (.int (4 : Int32)), .val (.int (1 : Int32)), .val (.int (1 : Int32)), .val (.int t0), .val (.int t1), .val (.int s0), .val (.int s1), .val (.int (0 : Int32)), .val (.ref tx), .val (.ref br), .val (.ref b1), .unset] []))) (fun t k => XS.astore X5.here hx rfl (hb hby at_154) rfl rfl (l' := #[.val (.int p0), .val (.int p1), .val (.int p2), .val (.int p3), .val (.int p4), .val (.int p5), .val (.int (4 : Int32)), .val (.int (1 : Int32)), .val (.int (1 : Int32)), .val (.int t0), .val (.int t1), .val (.int s0), .val (.int s1), .val (.int (0 : Int32)), .val (.ref tx), .val (.ref br), .val (.ref b1), .unset]) rfl (XS.iload X5.here hx rfl (hb hby at_156) rfl (XS.ifNo X5.here hx rfl (hb hby at_158) rfl ((if0 _ _).trans (teq (by decide)).2) (XS.iload X5.here hx rfl (hb hby at_161) rfl (XT.iconstV X5.here hx rfl (4 : Int32) (hb hby at_163) (by decide) (XS.icmpNo X5.here hx rfl (hb hby at_164) rfl (teq (by decide)).2 (XS.iload X5.here hx rfl (hb hby at_167) rfl (XS.iload X5.here hx rfl (hb hby at_169) rfl (XS.icmpNo X5.here hx rfl (hb hby at_171) rfl (teq (by decide)).2 (XS.iload X5.here hx rfl (hb hby at_174) rfl (XT.iconstV X5.here hx rfl (1 : Int32) (hb hby at_176) (by decide) (XS.icmpNo X5.here hx rfl (hb hby at_177) rfl (flt (by decide)).1 k)))))))))))) ?_
  refine Wp.back (U' := (T5.setTop (mkF m 184 #[.val (.int p0), .val (.int p1), .val (.int p2), .val (.int p3), .val (.int p4), .val (.int p5), .val (.int (4 : Int32)), .val (.int (1 : Int32)), .val (.int (1 : Int32)), .val (.int t0), .val (.int t1), .val (.int s0), .val (.int s1), .val (.int (0 : Int32)), .val (.ref tx), .val (.ref br), .val (.ref b1), .unset] [(.int s0), (.int t0)]))) (fun t k => XS.iload X5.here hx rfl (hb hby at_180) rfl (XS.iload X5.here hx rfl (hb hby at_182) rfl k)) ?_
  by_cases c184_7 : t0 = s0
  · refine Wp.back (U' := (T5.setTop (mkF m 211 #[.val (.int p0), .val (.int p1), .val (.int p2), .val (.int p3), .val (.int p4), .val (.int p5), .val (.int (4 : Int32)), .val (.int (1 : Int32)), .val (.int (1 : Int32)), .val (.int t0), .val (.int t1), .val (.int s0), .val (.int s1), .val (.int (0 : Int32)), .val (.ref tx), .val (.ref br), .val (.ref b1), .val (.int (1 : Int32))] [(.ref br), (.ref b1)]))) (fun t k => XS.icmpNo X5.here hx rfl (hb hby at_184) rfl (teq c184_7).2 (XS.iload X5.here hx rfl (hb hby at_187) rfl (XT.iconstV X5.here hx rfl (2 : Int32) (hb hby at_189) (by decide) (XS.icmpYes X5.here hx rfl (pc0 := 190) (pc' := 200) rfl (hb hby at_190) rfl (tlt (by decide)).1 (by decide) (by decide) (XT.iconstV X5.here hx rfl (1 : Int32) (hb hby at_200) (by decide) (XS.goto X5.here hx rfl (pc0 := 201) (pc' := 205) rfl (hb hby at_201) (by decide) (by decide) (XS.istore X5.here hx rfl (hb hby at_205) rfl (l' := #[.val (.int p0), .val (.int p1), .val (.int p2), .val (.int p3), .val (.int p4), .val (.int p5), .val (.int (4 : Int32)), .val (.int (1 : Int32)), .val (.int (1 : Int32)), .val (.int t0), .val (.int t1), .val (.int s0), .val (.int s1), .val (.int (0 : Int32)), .val (.ref tx), .val (.ref br), .val (.ref b1), .val (.int (1 : Int32))]) rfl (XS.aload X5.here hx rfl (hb hby at_207) rfl rfl (XS.aload X5.here hx rfl (hb hby at_209) rfl rfl k))))))))) ?_
    obtain ⟨cq8, kq8, q8a, q8b, q8c⟩ := isOf hZ rfl o5_0
    obtain ⟨_, _, ⟨T8, L8, k8, n8⟩, -, X8, ⟨Lc8, hQ8, l8, y8, z8⟩, st8⟩ := X5.virtualBack hx (y := (⟨"com/example/query_to_table/querytotable/sql/Token", "isSymbol", "(Ljava/lang/String;)Z"⟩ : MethodName)) (z := (⟨"com/example/query_to_table/querytotable/sql/Token", "isSymbol", "(Ljava/lang/String;)Z"⟩ : MethodName)) hown (mvT hZ (hw _ (List.mem_of_getElem? (i := 55) rfl))) (mvT hZ (hw _ (List.mem_of_getElem? (i := 56) rfl))) (notFace_of_selects (args := #[]) (mvT hZ (hw _ (List.mem_of_getElem? (i := 58) rfl)))) (mvT hZ (hw _ (List.mem_of_getElem? (i := 58) rfl))) (mvT hZ (hw _ (List.mem_of_getElem? (i := 57) rfl))) (by decide) (backOf (W := 0) (rm_is1_1 l Z a0 hw [] b1 br tx u4 a1 k1 a2 k2 cs (nar .byte ((nar .char t0)).toInt8.toInt32) (nar .byte ((nar .char s0)).toInt8.toInt32) T5.heap n0 f6_0 o5_1 f6_5 o5_2 f6_9 f6_10 f6_11 f6_12 f6_13 f6_14 f6_15 f6_16 f6_7 n_tb hcs) hZ (hw _ (List.mem_of_getElem? (i := 59) rfl)) (hw _ (List.mem_of_getElem? (i := 29) rfl)) (by decide) (by decide)) q8a q8c (g := (mkF m 211 #[.val (.int p0), .val (.int p1), .val (.int p2), .val (.int p3), .val (.int p4), .val (.int p5), .val (.int (4 : Int32)), .val (.int (1 : Int32)), .val (.int (1 : Int32)), .val (.int t0), .val (.int t1), .val (.int s0), .val (.int s1), .val (.int (0 : Int32)), .val (.ref tx), .val (.ref br), .val (.ref b1), .val (.int (1 : Int32))] [(.ref br), (.ref b1)])) rfl (by rw [hml]; rfl) (Steps.refl _) (argsL := [(.ref br)]) (rest := []) (lenOf own_t4_1pd0_2 rfl) rfl (by show 2 * 0 + _ ≤ _; exact Nat.le_of_eq rfl) (hb hby at_211) (fun _ _ => ⟨rfl, rfl, (by decide : 13 + 0 ≤ _), (by decide : 69 + 0 ≤ _)⟩)
    dsimp only [Pt.U, Pt.locs, Pt.cells, Pt.slots] at X8 l8 y8 z8 st8 hQ8
    subst l8 y8 z8
    obtain ⟨rfl, N8q, K8⟩ := hQ8
    have f9_0 := Nat.le_trans f6_0 K8.1
    have f9_1 := Sta_keep0 f6_1 K8
    have f9_2 := Sta_keep0 f6_2 K8
    have f9_3 := Sta_keep0 f6_3 K8
    have f9_4 := Sta_keep0 f6_4 K8
    have f9_5 := Sta_keep0 f6_5 K8
    have f9_6 := Sta_keep0 f6_6 K8
    have f9_7 := Sta_keep0 f6_7 K8
    have f9_8 := Nat.le_trans f6_8 K8.1
    have f9_9 := f6_9.keep K8
    have f9_10 := f6_10.keep K8 nin0
    have f9_11 := f6_11.keep K8 nin0
    have f9_12 := f6_12.keep K8 nin0
    have f9_13 := f6_13.keep K8
    have f9_14 := f6_14.keep K8 nin0
    have f9_15 := f6_15.keep K8 nin0
    have f9_16 := f6_16.keep K8 nin0
    have f9_17 := o5_0.keep K8
    have f9_18 := o5_1.keep K8 nin0
    have f9_19 := o5_2.keep K8 nin0
    have N8 := Fr.app N5 N8q
    refine Wp.back (U' := (T8.setTop (mkF m 214 #[.val (.int p0), .val (.int p1), .val (.int p2), .val (.int p3), .val (.int p4), .val (.int p5), .val (.int (4 : Int32)), .val (.int (1 : Int32)), .val (.int (1 : Int32)), .val (.int t0), .val (.int t1), .val (.int s0), .val (.int s1), .val (.int (0 : Int32)), .val (.ref tx), .val (.ref br), .val (.ref b1), .val (.int (1 : Int32))] [(.int (f_is1_1 (nar .byte ((nar .char t0)).toInt8.toInt32) (nar .byte ((nar .char s0)).toInt8.toInt32)))]))) (fun t k => st8.trans k) ?_
    refine Wp.back (U' := (T8.setTop (mkF m 224 #[.val (.int p0), .val (.int p1), .val (.int p2), .val (.int p3), .val (.int p4), .val (.int p5), .val (.int (4 : Int32)), .val (.int (1 : Int32)), .val (.int (1 : Int32)), .val (.int t0), .val (.int t1), .val (.int s0), .val (.int s1), .val (.int (0 : Int32)), .val (.ref tx), .val (.ref br), .val (.ref b1), .val (.int (1 : Int32))] [(.int (1 : Int32))]))) (fun t k => XS.iload X8.here hx rfl (hb hby at_214) rfl (XS.icmpNo X8.here hx rfl (hb hby at_216) rfl (teq ((own_i1 _ _).1 (by rw [c184_7]))).2 (XT.iconstV X8.here hx rfl (1 : Int32) (hb hby at_219) (by decide) (XS.goto X8.here hx rfl (pc0 := 220) (pc' := 224) rfl (hb hby at_220) (by decide) (by decide) k)))) ?_
    obtain ⟨fs, hr, hrun, hended, hend⟩ := X8.leaveW hS0 f9_8 (v := (some (.int (1 : Int32)))) (fun h => by rw [hret] at h; cases h)
    refine Wp.done (retN X8 hx (t := .boolean) hret (by simp) (hb hby at_224) hr) hrun hended ⟨_, _, rfl, ?_, hend.1, hend.2.1, hend.2.2.1, hend.2.2.2.mono (by decide) (by decide)⟩
    show QL n0 _ T8.heap _
    exact ⟨rfl, N8⟩
  · refine Wp.back (U' := (T5.setTop (mkF m 211 #[.val (.int p0), .val (.int p1), .val (.int p2), .val (.int p3), .val (.int p4), .val (.int p5), .val (.int (4 : Int32)), .val (.int (1 : Int32)), .val (.int (1 : Int32)), .val (.int t0), .val (.int t1), .val (.int s0), .val (.int s1), .val (.int (0 : Int32)), .val (.ref tx), .val (.ref br), .val (.ref b1), .val (.int (0 : Int32))] [(.ref br), (.ref b1)]))) (fun t k => XS.icmpYes X5.here hx rfl (pc0 := 184) (pc' := 204) rfl (hb hby at_184) rfl (feq c184_7).2 (by decide) (by decide) (XT.iconstV X5.here hx rfl (0 : Int32) (hb hby at_204) (by decide) (XS.istore X5.here hx rfl (hb hby at_205) rfl (l' := #[.val (.int p0), .val (.int p1), .val (.int p2), .val (.int p3), .val (.int p4), .val (.int p5), .val (.int (4 : Int32)), .val (.int (1 : Int32)), .val (.int (1 : Int32)), .val (.int t0), .val (.int t1), .val (.int s0), .val (.int s1), .val (.int (0 : Int32)), .val (.ref tx), .val (.ref br), .val (.ref b1), .val (.int (0 : Int32))]) rfl (XS.aload X5.here hx rfl (hb hby at_207) rfl rfl (XS.aload X5.here hx rfl (hb hby at_209) rfl rfl k))))) ?_
    obtain ⟨cq10, kq10, q10a, q10b, q10c⟩ := isOf hZ rfl o5_0
    obtain ⟨_, _, ⟨T10, L10, k10, n10⟩, -, X10, ⟨Lc10, hQ10, l10, y10, z10⟩, st10⟩ := X5.virtualBack hx (y := (⟨"com/example/query_to_table/querytotable/sql/Token", "isSymbol", "(Ljava/lang/String;)Z"⟩ : MethodName)) (z := (⟨"com/example/query_to_table/querytotable/sql/Token", "isSymbol", "(Ljava/lang/String;)Z"⟩ : MethodName)) hown (mvT hZ (hw _ (List.mem_of_getElem? (i := 55) rfl))) (mvT hZ (hw _ (List.mem_of_getElem? (i := 56) rfl))) (notFace_of_selects (args := #[]) (mvT hZ (hw _ (List.mem_of_getElem? (i := 58) rfl)))) (mvT hZ (hw _ (List.mem_of_getElem? (i := 58) rfl))) (mvT hZ (hw _ (List.mem_of_getElem? (i := 57) rfl))) (by decide) (backOf (W := 0) (rm_is1_1 l Z a0 hw [] b1 br tx u4 a1 k1 a2 k2 cs (nar .byte ((nar .char t0)).toInt8.toInt32) (nar .byte ((nar .char s0)).toInt8.toInt32) T5.heap n0 f6_0 o5_1 f6_5 o5_2 f6_9 f6_10 f6_11 f6_12 f6_13 f6_14 f6_15 f6_16 f6_7 n_tb hcs) hZ (hw _ (List.mem_of_getElem? (i := 59) rfl)) (hw _ (List.mem_of_getElem? (i := 29) rfl)) (by decide) (by decide)) q10a q10c (g := (mkF m 211 #[.val (.int p0), .val (.int p1), .val (.int p2), .val (.int p3), .val (.int p4), .val (.int p5), .val (.int (4 : Int32)), .val (.int (1 : Int32)), .val (.int (1 : Int32)), .val (.int t0), .val (.int t1), .val (.int s0), .val (.int s1), .val (.int (0 : Int32)), .val (.ref tx), .val (.ref br), .val (.ref b1), .val (.int (0 : Int32))] [(.ref br), (.ref b1)])) rfl (by rw [hml]; rfl) (Steps.refl _) (argsL := [(.ref br)]) (rest := []) (lenOf own_t4_1pd0_2 rfl) rfl (by show 2 * 0 + _ ≤ _; exact Nat.le_of_eq rfl) (hb hby at_211) (fun _ _ => ⟨rfl, rfl, (by decide : 13 + 0 ≤ _), (by decide : 69 + 0 ≤ _)⟩)
    dsimp only [Pt.U, Pt.locs, Pt.cells, Pt.slots] at X10 l10 y10 z10 st10 hQ10
    subst l10 y10 z10
    obtain ⟨rfl, N10q, K10⟩ := hQ10
    have f11_0 := Nat.le_trans f6_0 K10.1
    have f11_1 := Sta_keep0 f6_1 K10
    have f11_2 := Sta_keep0 f6_2 K10
    have f11_3 := Sta_keep0 f6_3 K10
    have f11_4 := Sta_keep0 f6_4 K10
    have f11_5 := Sta_keep0 f6_5 K10
    have f11_6 := Sta_keep0 f6_6 K10
    have f11_7 := Sta_keep0 f6_7 K10
    have f11_8 := Nat.le_trans f6_8 K10.1
    have f11_9 := f6_9.keep K10
    have f11_10 := f6_10.keep K10 nin0
    have f11_11 := f6_11.keep K10 nin0
    have f11_12 := f6_12.keep K10 nin0
    have f11_13 := f6_13.keep K10
    have f11_14 := f6_14.keep K10 nin0
    have f11_15 := f6_15.keep K10 nin0
    have f11_16 := f6_16.keep K10 nin0
    have f11_17 := o5_0.keep K10
    have f11_18 := o5_1.keep K10 nin0
    have f11_19 := o5_2.keep K10 nin0
    have N10 := Fr.app N5 N10q
    refine Wp.back (U' := (T10.setTop (mkF m 214 #[.val (.int p0), .val (.int p1), .val (.int p2), .val (.int p3), .val (.int p4), .val (.int p5), .val (.int (4 : Int32)), .val (.int (1 : Int32)), .val (.int (1 : Int32)), .val (.int t0), .val (.int t1), .val (.int s0), .val (.int s1), .val (.int (0 : Int32)), .val (.ref tx), .val (.ref br), .val (.ref b1), .val (.int (0 : Int32))] [(.int (f_is1_1 (nar .byte ((nar .char t0)).toInt8.toInt32) (nar .byte ((nar .char s0)).toInt8.toInt32)))]))) (fun t k => st10.trans k) ?_
    refine Wp.back (U' := (T10.setTop (mkF m 224 #[.val (.int p0), .val (.int p1), .val (.int p2), .val (.int p3), .val (.int p4), .val (.int p5), .val (.int (4 : Int32)), .val (.int (1 : Int32)), .val (.int (1 : Int32)), .val (.int t0), .val (.int t1), .val (.int s0), .val (.int s1), .val (.int (0 : Int32)), .val (.ref tx), .val (.ref br), .val (.ref b1), .val (.int (0 : Int32))] [(.int (1 : Int32))]))) (fun t k => XS.iload X10.here hx rfl (hb hby at_214) rfl (XS.icmpNo X10.here hx rfl (hb hby at_216) rfl (teq ((own_i1 _ _).2 (fun q => c184_7 (own_inj ht0 hs0 q)))).2 (XT.iconstV X10.here hx rfl (1 : Int32) (hb hby at_219) (by decide) (XS.goto X10.here hx rfl (pc0 := 220) (pc' := 224) rfl (hb hby at_220) (by decide) (by decide) k)))) ?_
    obtain ⟨fs, hr, hrun, hended, hend⟩ := X10.leaveW hS0 f11_8 (v := (some (.int (1 : Int32)))) (fun h => by rw [hret] at h; cases h)
    refine Wp.done (retN X10 hx (t := .boolean) hret (by simp) (hb hby at_224) hr) hrun hended ⟨_, _, rfl, ?_, hend.1, hend.2.1, hend.2.2.1, hend.2.2.2.mono (by decide) (by decide)⟩
    show QL n0 _ T10.heap _
    exact ⟨rfl, N10⟩
theorem own_t4_2pd0_0 : parseMethodDescriptor "(I)Lcom/example/query_to_table/querytotable/sql/Token$Kind;" = some ⟨[.int], some (.object "com/example/query_to_table/querytotable/sql/Token$Kind")⟩ := by decide +kernel
theorem own_t4_2pd0_1 : parseMethodDescriptor "(Lcom/example/query_to_table/querytotable/sql/Token$Kind;Ljava/lang/String;III)V" = some ⟨[(.object "com/example/query_to_table/querytotable/sql/Token$Kind"), (.object "java/lang/String"), .int, .int, .int], none⟩ := by decide +kernel
theorem own_t4_2pd0_2 : parseMethodDescriptor "(Ljava/lang/String;)Z" = some ⟨[(.object "java/lang/String")], some .boolean⟩ := by decide +kernel
set_option maxRecDepth 65536 in
set_option maxHeartbeats 40000000 in
theorem own_t4_2 {p : Program} {l : Launch} {e : Env} {s : State} {m : MethodId} {args : Array Value} {below : List Frame} {meth : Method} {c : Code} {T0 : State} {locs : List Loc} {Z : State} {a0 : Array Value} {hA : Heap} {n0 : Nat} {vm0 : Vm} {kk : Nat} (p0 p1 p2 p3 p4 p5 t0 t1 s0 s1 : Int32) (u0 u1 u2 u3 u4 u5 : Addr) (cs : Int32) (tx br : Addr) (a1 a2 : Addr) (k1 k2 : ClassId)
    (hx : p.tables.exec = Jvm.exec) (hw : ∀ d ∈ tables_1, d.before a0 Z = true) (hby : c.code = code) (hml : c.maxLocals = 18) (hret : meth.sig.returnType = ret) (hlk : meth.locks = false) (hZ : Z.Warmed39 (s.setVm vm0).vm) (hown : (s.setVm vm0).vm.findClass "com/example/query_to_table/querytotable/sql/TokenIsSymbolPinLaw" = some m.cls) (X0 : Stand p l e room_1 (s.setVm vm0) m args below meth c T0 locs 12 64) (e0 : T0.heap = hA) (N0 : Fr n0 locs) (Z0 : n0 ≤ hA.size) (hS0 : s.Since vm0 kk) (hk0 : kk ≤ hA.size) (SK0 : Sta Z hA "com/example/query_to_table/querytotable/sql/Token$Kind" "WORD" "Lcom/example/query_to_table/querytotable/sql/Token$Kind;" (.ref u0)) (SK1 : Sta Z hA "com/example/query_to_table/querytotable/sql/Token$Kind" "QUOTED_NAME" "Lcom/example/query_to_table/querytotable/sql/Token$Kind;" (.ref u1)) (SK2 : Sta Z hA "com/example/query_to_table/querytotable/sql/Token$Kind" "STRING" "Lcom/example/query_to_table/querytotable/sql/Token$Kind;" (.ref u2)) (SK3 : Sta Z hA "com/example/query_to_table/querytotable/sql/Token$Kind" "NUMBER" "Lcom/example/query_to_table/querytotable/sql/Token$Kind;" (.ref u3)) (SK4 : Sta Z hA "com/example/query_to_table/querytotable/sql/Token$Kind" "SYMBOL" "Lcom/example/query_to_table/querytotable/sql/Token$Kind;" (.ref u4)) (SK5 : Sta Z hA "com/example/query_to_table/querytotable/sql/Token$Kind" "UNCLOSED" "Lcom/example/query_to_table/querytotable/sql/Token$Kind;" (.ref u5)) (PC : Sta Z hA "java/lang/String" "COMPACT_STRINGS" "Z" (.int cs)) (B0 : Exa Z hA tx "java/lang/String") (B1 : Fld Z hA tx "java/lang/String" "value" "[B" (.ref a1)) (B2 : Fld Z hA tx "java/lang/String" "coder" "B" (.int (0 : Int32))) (B3 : Arv Z hA a1 k1 .byte (2 : Int32) [(.int (nar .byte ((nar .char t0)).toInt8.toInt32)), (.int (nar .byte ((nar .char t1)).toInt8.toInt32))] (.int (0 : Int32))) (B4 : Exa Z hA br "java/lang/String") (B5 : Fld Z hA br "java/lang/String" "value" "[B" (.ref a2)) (B6 : Fld Z hA br "java/lang/String" "coder" "B" (.int (0 : Int32))) (B7 : Arv Z hA a2 k2 .byte (2 : Int32) [(.int (nar .byte ((nar .char s0)).toInt8.toInt32)), (.int (nar .byte ((nar .char s1)).toInt8.toInt32))] (.int (0 : Int32))) (hcs : ¬ cs = (0 : Int32)) (nu0 : u0 ≠ u4) (nu1 : u1 ≠ u4) (nu2 : u2 ≠ u4) (nu3 : u3 ≠ u4) (nu5 : u5 ≠ u4) (n_tb : tx ≠ br) (ht0 : 0 ≤ t0.toInt ∧ t0.toInt ≤ 255) (ht1 : 0 ≤ t1.toInt ∧ t1.toInt ≤ 255) (hs0 : 0 ≤ s0.toInt ∧ s0.toInt ≤ 255) (hs1 : 0 ≤ s1.toInt ∧ s1.toInt ≤ 255) :
    Wp p e below (fun o s₂ => ∃ v L, o = .returned v ∧ QL n0 v s₂.heap L ∧ ReturnedEndW s o s₂ L 24 1152) (T0.setTop (mkF m 137 #[.val (.int p0), .val (.int p1), .val (.int p2), .val (.int p3), .val (.int p4), .val (.int p5), .val (.int (4 : Int32)), .val (.int (2 : Int32)), .val (.int (2 : Int32)), .val (.int t0), .val (.int t1), .val (.int s0), .val (.int s1), .val (.int (0 : Int32)), .val (.ref tx), .val (.ref br), .unset, .unset] [])) := by
  have hEL : EW Z a0 consts_1 := own_EW hw
  have wS := own_wS hw
  obtain ⟨T1, h1, X1, e1, E1, A1, D1, -, st1⟩ := newO X0 hx hZ hown (hw _ (List.mem_of_getElem? (i := 27) rfl)) (hw _ (List.mem_of_getElem? (i := 28) rfl)) (hw _ (List.mem_of_getElem? (i := 29) rfl)) e0 (g := (mkF m 137 #[.val (.int p0), .val (.int p1), .val (.int p2), .val (.int p3), .val (.int p4), .val (.int p5), .val (.int (4 : Int32)), .val (.int (2 : Int32)), .val (.int (2 : Int32)), .val (.int t0), .val (.int t1), .val (.int s0), .val (.int s1), .val (.int (0 : Int32)), .val (.ref tx), .val (.ref br), .unset, .unset] [])) rfl (hb hby at_137) (by decide) (by decide)
  obtain ⟨b1, g1⟩ : ∃ z, z = hA.size := ⟨_, rfl⟩
  rw [← g1] at A1 D1 st1
  have ne_tx_b1 : tx ≠ b1 := Nat.ne_of_lt (Nat.lt_of_lt_of_le B0.lt (Nat.le_of_eq g1.symm))
  have ne_a1_b1 : a1 ≠ b1 := Nat.ne_of_lt (Nat.lt_of_lt_of_le B3.lt (Nat.le_of_eq g1.symm))
  have ne_br_b1 : br ≠ b1 := Nat.ne_of_lt (Nat.lt_of_lt_of_le B4.lt (Nat.le_of_eq g1.symm))
  have ne_a2_b1 : a2 ≠ b1 := Nat.ne_of_lt (Nat.lt_of_lt_of_le B7.lt (Nat.le_of_eq g1.symm))
  have g_b1 : n0 ≤ b1 := Nat.le_trans Z0 (Nat.le_of_eq g1.symm)
  have f2_0 := Nat.le_trans Z0 E1.1
  have f2_1 := SK0.ext E1
  have f2_2 := SK1.ext E1
  have f2_3 := SK2.ext E1
  have f2_4 := SK3.ext E1
  have f2_5 := SK4.ext E1
  have f2_6 := SK5.ext E1
  have f2_7 := PC.ext E1
  have f2_8 := Nat.le_trans hk0 E1.1
  have f2_9 := B0.ext E1
  have f2_10 := B1.ext E1
  have f2_11 := B2.ext E1
  have f2_12 := B3.ext E1
  have f2_13 := B4.ext E1
  have f2_14 := B5.ext E1
  have f2_15 := B6.ext E1
  have f2_16 := B7.ext E1
  have F1_46 : Fld Z h1 b1 "com/example/query_to_table/querytotable/sql/Token" "kind" "Lcom/example/query_to_table/querytotable/sql/Token$Kind;" .null := D1 (Or.inr (hw _ (List.mem_of_getElem? (i := 46) rfl))) (ty := (.object "com/example/query_to_table/querytotable/sql/Token$Kind")) (by decide)
  have F1_48 : Fld Z h1 b1 "com/example/query_to_table/querytotable/sql/Token" "text" "Ljava/lang/String;" .null := D1 (Or.inr (hw _ (List.mem_of_getElem? (i := 48) rfl))) (ty := (.object "java/lang/String")) (by decide)
  have F1_50 : Fld Z h1 b1 "com/example/query_to_table/querytotable/sql/Token" "line" "I" (.int (0 : Int32)) := D1 (Or.inr (hw _ (List.mem_of_getElem? (i := 50) rfl))) (ty := .int) (by decide)
  have F1_52 : Fld Z h1 b1 "com/example/query_to_table/querytotable/sql/Token" "start" "I" (.int (0 : Int32)) := D1 (Or.inr (hw _ (List.mem_of_getElem? (i := 52) rfl))) (ty := .int) (by decide)
  have F1_54 : Fld Z h1 b1 "com/example/query_to_table/querytotable/sql/Token" "end" "I" (.int (0 : Int32)) := D1 (Or.inr (hw _ (List.mem_of_getElem? (i := 54) rfl))) (ty := .int) (by decide)
  refine Wp.back (U' := (T1.setTop (mkF m 140 #[.val (.int p0), .val (.int p1), .val (.int p2), .val (.int p3), .val (.int p4), .val (.int p5), .val (.int (4 : Int32)), .val (.int (2 : Int32)), .val (.int (2 : Int32)), .val (.int t0), .val (.int t1), .val (.int s0), .val (.int s1), .val (.int (0 : Int32)), .val (.ref tx), .val (.ref br), .unset, .unset] [(.ref b1)]))) st1 ?_
  refine Wp.back (U' := (T1.setTop (mkF m 143 #[.val (.int p0), .val (.int p1), .val (.int p2), .val (.int p3), .val (.int p4), .val (.int p5), .val (.int (4 : Int32)), .val (.int (2 : Int32)), .val (.int (2 : Int32)), .val (.int t0), .val (.int t1), .val (.int s0), .val (.int s1), .val (.int (0 : Int32)), .val (.ref tx), .val (.ref br), .unset, .unset] [(.int (4 : Int32)), (.ref b1), (.ref b1)]))) (fun t k => XS.dup X1.here hx rfl (hb hby at_140) rfl rfl (XS.iload X1.here hx rfl (hb hby at_141) rfl k)) ?_
  obtain ⟨_, _, ⟨T3, L3, k3, n3⟩, -, X3, ⟨Lc3, hQ3, l3, y3, z3⟩, st3⟩ := Jvm.LawKit.callS X1 hx (y := (⟨"com/example/query_to_table/querytotable/sql/TokenIsSymbolPinLaw", "kindOf", "(I)Lcom/example/query_to_table/querytotable/sql/Token$Kind;"⟩ : MethodName)) hown (mvT hZ (hw _ (List.mem_of_getElem? (i := 30) rfl))) (mvT hZ (hw _ (List.mem_of_getElem? (i := 31) rfl))) (mvT hZ (hw _ (List.mem_of_getElem? (i := 3) rfl))) (mvT hZ (hw _ (List.mem_of_getElem? (i := 32) rfl))) (by decide) (backOf (W := 2) (rm_k4 l Z a0 hw []  u4 h1 n0 f2_0 f2_5) hZ (hw _ (List.mem_of_getElem? (i := 32) rfl)) (hw _ (List.mem_of_getElem? (i := 3) rfl)) (by decide) (by decide)) (g := (mkF m 143 #[.val (.int p0), .val (.int p1), .val (.int p2), .val (.int p3), .val (.int p4), .val (.int p5), .val (.int (4 : Int32)), .val (.int (2 : Int32)), .val (.int (2 : Int32)), .val (.int t0), .val (.int t1), .val (.int s0), .val (.int s1), .val (.int (0 : Int32)), .val (.ref tx), .val (.ref br), .unset, .unset] [(.int (4 : Int32)), (.ref b1), (.ref b1)])) rfl (by rw [hml]; rfl) (argsL := [(.int (4 : Int32))]) (rest := [(.ref b1), (.ref b1)]) (lenOf own_t4_2pd0_0 rfl) rfl (by show 2 * 0 + _ ≤ _; exact Nat.le_of_eq rfl) (hb hby at_143) (fun _ _ => ⟨rfl, e1, (by decide : 13 + 0 ≤ _), (by decide : 69 + 0 ≤ _)⟩)
  dsimp only [Pt.U, Pt.locs, Pt.cells, Pt.slots] at X3 l3 y3 z3 st3 hQ3
  subst l3 y3 z3
  obtain ⟨rfl, N3q, K3⟩ := hQ3
  have f4_0 := Nat.le_trans f2_0 K3.1
  have f4_1 := Sta_keep0 f2_1 K3
  have f4_2 := Sta_keep0 f2_2 K3
  have f4_3 := Sta_keep0 f2_3 K3
  have f4_4 := Sta_keep0 f2_4 K3
  have f4_5 := Sta_keep0 f2_5 K3
  have f4_6 := Sta_keep0 f2_6 K3
  have f4_7 := Sta_keep0 f2_7 K3
  have f4_8 := Nat.le_trans f2_8 K3.1
  have f4_9 := f2_9.keep K3
  have f4_10 := f2_10.keep K3 nin0
  have f4_11 := f2_11.keep K3 nin0
  have f4_12 := f2_12.keep K3 nin0
  have f4_13 := f2_13.keep K3
  have f4_14 := f2_14.keep K3 nin0
  have f4_15 := f2_15.keep K3 nin0
  have f4_16 := f2_16.keep K3 nin0
  have f4_17 := A1.keep K3
  have f4_18 := F1_46.keep K3 nin0
  have f4_19 := F1_48.keep K3 nin0
  have f4_20 := F1_50.keep K3 nin0
  have f4_21 := F1_52.keep K3 nin0
  have f4_22 := F1_54.keep K3 nin0
  have N3 := Fr.app N0 N3q
  refine Wp.back (U' := (T3.setTop (mkF m 146 #[.val (.int p0), .val (.int p1), .val (.int p2), .val (.int p3), .val (.int p4), .val (.int p5), .val (.int (4 : Int32)), .val (.int (2 : Int32)), .val (.int (2 : Int32)), .val (.int t0), .val (.int t1), .val (.int s0), .val (.int s1), .val (.int (0 : Int32)), .val (.ref tx), .val (.ref br), .unset, .unset] [(.ref u4), (.ref b1), (.ref b1)]))) st3 ?_
  refine Wp.back (U' := (T3.setTop (mkF m 151 #[.val (.int p0), .val (.int p1), .val (.int p2), .val (.int p3), .val (.int p4), .val (.int p5), .val (.int (4 : Int32)), .val (.int (2 : Int32)), .val (.int (2 : Int32)), .val (.int t0), .val (.int t1), .val (.int s0), .val (.int s1), .val (.int (0 : Int32)), .val (.ref tx), .val (.ref br), .unset, .unset] [(.int p3), (.int p2), (.int p1), (.ref tx), (.ref u4), (.ref b1), (.ref b1)]))) (fun t k => XS.aload X3.here hx rfl (hb hby at_146) rfl rfl (XS.iloadN X3.here hx rfl (hb hby at_148) rfl (XS.iloadN X3.here hx rfl (hb hby at_149) rfl (XS.iloadN X3.here hx rfl (hb hby at_150) rfl k)))) ?_
  obtain ⟨_, _, ⟨T5, L5, k5, n5⟩, -, X5, ⟨Lc5, hQ5, l5, y5, z5⟩, st5⟩ := X3.specialBack hx (y := (⟨"com/example/query_to_table/querytotable/sql/Token", "<init>", "(Lcom/example/query_to_table/querytotable/sql/Token$Kind;Ljava/lang/String;III)V"⟩ : MethodName)) rfl hown (mvT hZ (hw _ (List.mem_of_getElem? (i := 36) rfl))) (mvT hZ (hw _ (List.mem_of_getElem? (i := 37) rfl))) (mvT hZ (hw _ (List.mem_of_getElem? (i := 38) rfl))) (by decide) (backOf (W := 1) (rm_ti l Z a0 hw [] b1 u4 tx p1 p2 p3  T3.heap n0 f4_0 f4_17 f4_18 f4_19 f4_20 f4_21 f4_22 g_b1) hZ (hw _ (List.mem_of_getElem? (i := 38) rfl)) (hw _ (List.mem_of_getElem? (i := 29) rfl)) (by decide) (by decide)) (g := (mkF m 151 #[.val (.int p0), .val (.int p1), .val (.int p2), .val (.int p3), .val (.int p4), .val (.int p5), .val (.int (4 : Int32)), .val (.int (2 : Int32)), .val (.int (2 : Int32)), .val (.int t0), .val (.int t1), .val (.int s0), .val (.int s1), .val (.int (0 : Int32)), .val (.ref tx), .val (.ref br), .unset, .unset] [(.int p3), (.int p2), (.int p1), (.ref tx), (.ref u4), (.ref b1), (.ref b1)])) rfl (by rw [hml]; rfl) (Steps.refl _) (a := b1) (argsL := [(.ref u4), (.ref tx), (.int p1), (.int p2), (.int p3)]) (rest := [(.ref b1)]) (lenOf own_t4_2pd0_1 rfl) rfl (by show 2 * 0 + _ ≤ _; exact Nat.le_of_eq rfl) (hb hby at_151) (fun _ _ => ⟨rfl, rfl, (by decide : 13 + 0 ≤ _), (by decide : 69 + 0 ≤ _)⟩)
  dsimp only [Pt.U, Pt.locs, Pt.cells, Pt.slots] at X5 l5 y5 z5 st5 hQ5
  subst l5 y5 z5
  obtain ⟨rfl, N5q, K5, o5_0, o5_1, o5_2⟩ := hQ5
  have f6_0 := Nat.le_trans f4_0 K5.1
  have f6_1 := Sta_keep f4_1 K5 (allS (Exa_ns f4_17) all0)
  have f6_2 := Sta_keep f4_2 K5 (allS (Exa_ns f4_17) all0)
  have f6_3 := Sta_keep f4_3 K5 (allS (Exa_ns f4_17) all0)
  have f6_4 := Sta_keep f4_4 K5 (allS (Exa_ns f4_17) all0)
  have f6_5 := Sta_keep f4_5 K5 (allS (Exa_ns f4_17) all0)
  have f6_6 := Sta_keep f4_6 K5 (allS (Exa_ns f4_17) all0)
  have f6_7 := Sta_keep f4_7 K5 (allS (Exa_ns f4_17) all0)
  have f6_8 := Nat.le_trans f4_8 K5.1
  have f6_9 := f4_9.keep K5
  have f6_10 := f4_10.keep K5 (ninS ne_tx_b1 nin0)
  have f6_11 := f4_11.keep K5 (ninS ne_tx_b1 nin0)
  have f6_12 := f4_12.keep K5 (ninS ne_a1_b1 nin0)
  have f6_13 := f4_13.keep K5
  have f6_14 := f4_14.keep K5 (ninS ne_br_b1 nin0)
  have f6_15 := f4_15.keep K5 (ninS ne_br_b1 nin0)
  have f6_16 := f4_16.keep K5 (ninS ne_a2_b1 nin0)
  have f6_17 := f4_17.keep K5
  have N5 := Fr.app N3 N5q
  refine Wp.back (U' := (T5.setTop (mkF m 154 #[.val (.int p0), .val (.int p1), .val (.int p2), .val (.int p3), .val (.int p4), .val (.int p5), .val (.int (4 : Int32)), .val (.int (2 : Int32)), .val (.int (2 : Int32)), .val (.int t0), .val (.int t1), .val (.int s0), .val (.int s1), .val (.int (0 : Int32)), .val (.ref tx), .val (.ref br), .unset, .unset] [(.ref b1)]))) (fun t k => st5.trans k) ?_
  refine Wp.back (U' := (T5.setTop (mkF m 180 #[.val (.int p0), .val (.int p1), .val (.int p2), .val (.int p3), .val (.int p4), .val (.int p5), .val (.int (4 : Int32)), .val (.int (2 : Int32)), .val (.int (2 : Int32)), .val (.int t0), .val (.int t1), .val (.int s0), .val (.int s1), .val (.int (0 : Int32)), .val (.ref tx), .val (.ref br), .val (.ref b1), .unset] []))) (fun t k => XS.astore X5.here hx rfl (hb hby at_154) rfl rfl (l' := #[.val (.int p0), .val (.int p1), .val (.int p2), .val (.int p3), .val (.int p4), .val (.int p5), .val (.int (4 : Int32)), .val (.int (2 : Int32)), .val (.int (2 : Int32)), .val (.int t0), .val (.int t1), .val (.int s0), .val (.int s1), .val (.int (0 : Int32)), .val (.ref tx), .val (.ref br), .val (.ref b1), .unset]) rfl (XS.iload X5.here hx rfl (hb hby at_156) rfl (XS.ifNo X5.here hx rfl (hb hby at_158) rfl ((if0 _ _).trans (teq (by decide)).2) (XS.iload X5.here hx rfl (hb hby at_161) rfl (XT.iconstV X5.here hx rfl (4 : Int32) (hb hby at_163) (by decide) (XS.icmpNo X5.here hx rfl (hb hby at_164) rfl (teq (by decide)).2 (XS.iload X5.here hx rfl (hb hby at_167) rfl (XS.iload X5.here hx rfl (hb hby at_169) rfl (XS.icmpNo X5.here hx rfl (hb hby at_171) rfl (teq (by decide)).2 (XS.iload X5.here hx rfl (hb hby at_174) rfl (XT.iconstV X5.here hx rfl (1 : Int32) (hb hby at_176) (by decide) (XS.icmpNo X5.here hx rfl (hb hby at_177) rfl (flt (by decide)).1 k)))))))))))) ?_
  refine Wp.back (U' := (T5.setTop (mkF m 184 #[.val (.int p0), .val (.int p1), .val (.int p2), .val (.int p3), .val (.int p4), .val (.int p5), .val (.int (4 : Int32)), .val (.int (2 : Int32)), .val (.int (2 : Int32)), .val (.int t0), .val (.int t1), .val (.int s0), .val (.int s1), .val (.int (0 : Int32)), .val (.ref tx), .val (.ref br), .val (.ref b1), .unset] [(.int s0), (.int t0)]))) (fun t k => XS.iload X5.here hx rfl (hb hby at_180) rfl (XS.iload X5.here hx rfl (hb hby at_182) rfl k)) ?_
  by_cases c184_7 : t0 = s0
  · refine Wp.back (U' := (T5.setTop (mkF m 197 #[.val (.int p0), .val (.int p1), .val (.int p2), .val (.int p3), .val (.int p4), .val (.int p5), .val (.int (4 : Int32)), .val (.int (2 : Int32)), .val (.int (2 : Int32)), .val (.int t0), .val (.int t1), .val (.int s0), .val (.int s1), .val (.int (0 : Int32)), .val (.ref tx), .val (.ref br), .val (.ref b1), .unset] [(.int s1), (.int t1)]))) (fun t k => XS.icmpNo X5.here hx rfl (hb hby at_184) rfl (teq c184_7).2 (XS.iload X5.here hx rfl (hb hby at_187) rfl (XT.iconstV X5.here hx rfl (2 : Int32) (hb hby at_189) (by decide) (XS.icmpNo X5.here hx rfl (hb hby at_190) rfl (flt (by decide)).1 (XS.iload X5.here hx rfl (hb hby at_193) rfl (XS.iload X5.here hx rfl (hb hby at_195) rfl k)))))) ?_
    by_cases c197_8 : t1 = s1
    · refine Wp.back (U' := (T5.setTop (mkF m 211 #[.val (.int p0), .val (.int p1), .val (.int p2), .val (.int p3), .val (.int p4), .val (.int p5), .val (.int (4 : Int32)), .val (.int (2 : Int32)), .val (.int (2 : Int32)), .val (.int t0), .val (.int t1), .val (.int s0), .val (.int s1), .val (.int (0 : Int32)), .val (.ref tx), .val (.ref br), .val (.ref b1), .val (.int (1 : Int32))] [(.ref br), (.ref b1)]))) (fun t k => XS.icmpNo X5.here hx rfl (hb hby at_197) rfl (teq c197_8).2 (XT.iconstV X5.here hx rfl (1 : Int32) (hb hby at_200) (by decide) (XS.goto X5.here hx rfl (pc0 := 201) (pc' := 205) rfl (hb hby at_201) (by decide) (by decide) (XS.istore X5.here hx rfl (hb hby at_205) rfl (l' := #[.val (.int p0), .val (.int p1), .val (.int p2), .val (.int p3), .val (.int p4), .val (.int p5), .val (.int (4 : Int32)), .val (.int (2 : Int32)), .val (.int (2 : Int32)), .val (.int t0), .val (.int t1), .val (.int s0), .val (.int s1), .val (.int (0 : Int32)), .val (.ref tx), .val (.ref br), .val (.ref b1), .val (.int (1 : Int32))]) rfl (XS.aload X5.here hx rfl (hb hby at_207) rfl rfl (XS.aload X5.here hx rfl (hb hby at_209) rfl rfl k)))))) ?_
      obtain ⟨cq9, kq9, q9a, q9b, q9c⟩ := isOf hZ rfl o5_0
      obtain ⟨_, _, ⟨T9, L9, k9, n9⟩, -, X9, ⟨Lc9, hQ9, l9, y9, z9⟩, st9⟩ := X5.virtualBack hx (y := (⟨"com/example/query_to_table/querytotable/sql/Token", "isSymbol", "(Ljava/lang/String;)Z"⟩ : MethodName)) (z := (⟨"com/example/query_to_table/querytotable/sql/Token", "isSymbol", "(Ljava/lang/String;)Z"⟩ : MethodName)) hown (mvT hZ (hw _ (List.mem_of_getElem? (i := 55) rfl))) (mvT hZ (hw _ (List.mem_of_getElem? (i := 56) rfl))) (notFace_of_selects (args := #[]) (mvT hZ (hw _ (List.mem_of_getElem? (i := 58) rfl)))) (mvT hZ (hw _ (List.mem_of_getElem? (i := 58) rfl))) (mvT hZ (hw _ (List.mem_of_getElem? (i := 57) rfl))) (by decide) (backOf (W := 0) (rm_is2_2 l Z a0 hw [] b1 br tx u4 a1 k1 a2 k2 cs (nar .byte ((nar .char t0)).toInt8.toInt32) (nar .byte ((nar .char t1)).toInt8.toInt32) (nar .byte ((nar .char s0)).toInt8.toInt32) (nar .byte ((nar .char s1)).toInt8.toInt32) T5.heap n0 f6_0 o5_1 f6_5 o5_2 f6_9 f6_10 f6_11 f6_12 f6_13 f6_14 f6_15 f6_16 f6_7 n_tb hcs) hZ (hw _ (List.mem_of_getElem? (i := 59) rfl)) (hw _ (List.mem_of_getElem? (i := 29) rfl)) (by decide) (by decide)) q9a q9c (g := (mkF m 211 #[.val (.int p0), .val (.int p1), .val (.int p2), .val (.int p3), .val (.int p4), .val (.int p5), .val (.int (4 : Int32)), .val (.int (2 : Int32)), .val (.int (2 : Int32)), .val (.int t0), .val (.int t1), .val (.int s0), .val (.int s1), .val (.int (0 : Int32)), .val (.ref tx), .val (.ref br), .val (.ref b1), .val (.int (1 : Int32))] [(.ref br), (.ref b1)])) rfl (by rw [hml]; rfl) (Steps.refl _) (argsL := [(.ref br)]) (rest := []) (lenOf own_t4_2pd0_2 rfl) rfl (by show 2 * 0 + _ ≤ _; exact Nat.le_of_eq rfl) (hb hby at_211) (fun _ _ => ⟨rfl, rfl, (by decide : 13 + 0 ≤ _), (by decide : 69 + 0 ≤ _)⟩)
      dsimp only [Pt.U, Pt.locs, Pt.cells, Pt.slots] at X9 l9 y9 z9 st9 hQ9
      subst l9 y9 z9
      obtain ⟨rfl, N9q, K9⟩ := hQ9
      have f10_0 := Nat.le_trans f6_0 K9.1
      have f10_1 := Sta_keep0 f6_1 K9
      have f10_2 := Sta_keep0 f6_2 K9
      have f10_3 := Sta_keep0 f6_3 K9
      have f10_4 := Sta_keep0 f6_4 K9
      have f10_5 := Sta_keep0 f6_5 K9
      have f10_6 := Sta_keep0 f6_6 K9
      have f10_7 := Sta_keep0 f6_7 K9
      have f10_8 := Nat.le_trans f6_8 K9.1
      have f10_9 := f6_9.keep K9
      have f10_10 := f6_10.keep K9 nin0
      have f10_11 := f6_11.keep K9 nin0
      have f10_12 := f6_12.keep K9 nin0
      have f10_13 := f6_13.keep K9
      have f10_14 := f6_14.keep K9 nin0
      have f10_15 := f6_15.keep K9 nin0
      have f10_16 := f6_16.keep K9 nin0
      have f10_17 := o5_0.keep K9
      have f10_18 := o5_1.keep K9 nin0
      have f10_19 := o5_2.keep K9 nin0
      have N9 := Fr.app N5 N9q
      refine Wp.back (U' := (T9.setTop (mkF m 214 #[.val (.int p0), .val (.int p1), .val (.int p2), .val (.int p3), .val (.int p4), .val (.int p5), .val (.int (4 : Int32)), .val (.int (2 : Int32)), .val (.int (2 : Int32)), .val (.int t0), .val (.int t1), .val (.int s0), .val (.int s1), .val (.int (0 : Int32)), .val (.ref tx), .val (.ref br), .val (.ref b1), .val (.int (1 : Int32))] [(.int (f_is2_2 (nar .byte ((nar .char t0)).toInt8.toInt32) (nar .byte ((nar .char t1)).toInt8.toInt32) (nar .byte ((nar .char s0)).toInt8.toInt32) (nar .byte ((nar .char s1)).toInt8.toInt32)))]))) (fun t k => st9.trans k) ?_
      refine Wp.back (U' := (T9.setTop (mkF m 224 #[.val (.int p0), .val (.int p1), .val (.int p2), .val (.int p3), .val (.int p4), .val (.int p5), .val (.int (4 : Int32)), .val (.int (2 : Int32)), .val (.int (2 : Int32)), .val (.int t0), .val (.int t1), .val (.int s0), .val (.int s1), .val (.int (0 : Int32)), .val (.ref tx), .val (.ref br), .val (.ref b1), .val (.int (1 : Int32))] [(.int (1 : Int32))]))) (fun t k => XS.iload X9.here hx rfl (hb hby at_214) rfl (XS.icmpNo X9.here hx rfl (hb hby at_216) rfl (teq ((own_i2 _ _ _ _).1 (by rw [c184_7]) (by rw [c197_8]))).2 (XT.iconstV X9.here hx rfl (1 : Int32) (hb hby at_219) (by decide) (XS.goto X9.here hx rfl (pc0 := 220) (pc' := 224) rfl (hb hby at_220) (by decide) (by decide) k)))) ?_
      obtain ⟨fs, hr, hrun, hended, hend⟩ := X9.leaveW hS0 f10_8 (v := (some (.int (1 : Int32)))) (fun h => by rw [hret] at h; cases h)
      refine Wp.done (retN X9 hx (t := .boolean) hret (by simp) (hb hby at_224) hr) hrun hended ⟨_, _, rfl, ?_, hend.1, hend.2.1, hend.2.2.1, hend.2.2.2.mono (by decide) (by decide)⟩
      show QL n0 _ T9.heap _
      exact ⟨rfl, N9⟩
    · refine Wp.back (U' := (T5.setTop (mkF m 211 #[.val (.int p0), .val (.int p1), .val (.int p2), .val (.int p3), .val (.int p4), .val (.int p5), .val (.int (4 : Int32)), .val (.int (2 : Int32)), .val (.int (2 : Int32)), .val (.int t0), .val (.int t1), .val (.int s0), .val (.int s1), .val (.int (0 : Int32)), .val (.ref tx), .val (.ref br), .val (.ref b1), .val (.int (0 : Int32))] [(.ref br), (.ref b1)]))) (fun t k => XS.icmpYes X5.here hx rfl (pc0 := 197) (pc' := 204) rfl (hb hby at_197) rfl (feq c197_8).2 (by decide) (by decide) (XT.iconstV X5.here hx rfl (0 : Int32) (hb hby at_204) (by decide) (XS.istore X5.here hx rfl (hb hby at_205) rfl (l' := #[.val (.int p0), .val (.int p1), .val (.int p2), .val (.int p3), .val (.int p4), .val (.int p5), .val (.int (4 : Int32)), .val (.int (2 : Int32)), .val (.int (2 : Int32)), .val (.int t0), .val (.int t1), .val (.int s0), .val (.int s1), .val (.int (0 : Int32)), .val (.ref tx), .val (.ref br), .val (.ref b1), .val (.int (0 : Int32))]) rfl (XS.aload X5.here hx rfl (hb hby at_207) rfl rfl (XS.aload X5.here hx rfl (hb hby at_209) rfl rfl k))))) ?_
      obtain ⟨cq11, kq11, q11a, q11b, q11c⟩ := isOf hZ rfl o5_0
      obtain ⟨_, _, ⟨T11, L11, k11, n11⟩, -, X11, ⟨Lc11, hQ11, l11, y11, z11⟩, st11⟩ := X5.virtualBack hx (y := (⟨"com/example/query_to_table/querytotable/sql/Token", "isSymbol", "(Ljava/lang/String;)Z"⟩ : MethodName)) (z := (⟨"com/example/query_to_table/querytotable/sql/Token", "isSymbol", "(Ljava/lang/String;)Z"⟩ : MethodName)) hown (mvT hZ (hw _ (List.mem_of_getElem? (i := 55) rfl))) (mvT hZ (hw _ (List.mem_of_getElem? (i := 56) rfl))) (notFace_of_selects (args := #[]) (mvT hZ (hw _ (List.mem_of_getElem? (i := 58) rfl)))) (mvT hZ (hw _ (List.mem_of_getElem? (i := 58) rfl))) (mvT hZ (hw _ (List.mem_of_getElem? (i := 57) rfl))) (by decide) (backOf (W := 0) (rm_is2_2 l Z a0 hw [] b1 br tx u4 a1 k1 a2 k2 cs (nar .byte ((nar .char t0)).toInt8.toInt32) (nar .byte ((nar .char t1)).toInt8.toInt32) (nar .byte ((nar .char s0)).toInt8.toInt32) (nar .byte ((nar .char s1)).toInt8.toInt32) T5.heap n0 f6_0 o5_1 f6_5 o5_2 f6_9 f6_10 f6_11 f6_12 f6_13 f6_14 f6_15 f6_16 f6_7 n_tb hcs) hZ (hw _ (List.mem_of_getElem? (i := 59) rfl)) (hw _ (List.mem_of_getElem? (i := 29) rfl)) (by decide) (by decide)) q11a q11c (g := (mkF m 211 #[.val (.int p0), .val (.int p1), .val (.int p2), .val (.int p3), .val (.int p4), .val (.int p5), .val (.int (4 : Int32)), .val (.int (2 : Int32)), .val (.int (2 : Int32)), .val (.int t0), .val (.int t1), .val (.int s0), .val (.int s1), .val (.int (0 : Int32)), .val (.ref tx), .val (.ref br), .val (.ref b1), .val (.int (0 : Int32))] [(.ref br), (.ref b1)])) rfl (by rw [hml]; rfl) (Steps.refl _) (argsL := [(.ref br)]) (rest := []) (lenOf own_t4_2pd0_2 rfl) rfl (by show 2 * 0 + _ ≤ _; exact Nat.le_of_eq rfl) (hb hby at_211) (fun _ _ => ⟨rfl, rfl, (by decide : 13 + 0 ≤ _), (by decide : 69 + 0 ≤ _)⟩)
      dsimp only [Pt.U, Pt.locs, Pt.cells, Pt.slots] at X11 l11 y11 z11 st11 hQ11
      subst l11 y11 z11
      obtain ⟨rfl, N11q, K11⟩ := hQ11
      have f12_0 := Nat.le_trans f6_0 K11.1
      have f12_1 := Sta_keep0 f6_1 K11
      have f12_2 := Sta_keep0 f6_2 K11
      have f12_3 := Sta_keep0 f6_3 K11
      have f12_4 := Sta_keep0 f6_4 K11
      have f12_5 := Sta_keep0 f6_5 K11
      have f12_6 := Sta_keep0 f6_6 K11
      have f12_7 := Sta_keep0 f6_7 K11
      have f12_8 := Nat.le_trans f6_8 K11.1
      have f12_9 := f6_9.keep K11
      have f12_10 := f6_10.keep K11 nin0
      have f12_11 := f6_11.keep K11 nin0
      have f12_12 := f6_12.keep K11 nin0
      have f12_13 := f6_13.keep K11
      have f12_14 := f6_14.keep K11 nin0
      have f12_15 := f6_15.keep K11 nin0
      have f12_16 := f6_16.keep K11 nin0
      have f12_17 := o5_0.keep K11
      have f12_18 := o5_1.keep K11 nin0
      have f12_19 := o5_2.keep K11 nin0
      have N11 := Fr.app N5 N11q
      refine Wp.back (U' := (T11.setTop (mkF m 214 #[.val (.int p0), .val (.int p1), .val (.int p2), .val (.int p3), .val (.int p4), .val (.int p5), .val (.int (4 : Int32)), .val (.int (2 : Int32)), .val (.int (2 : Int32)), .val (.int t0), .val (.int t1), .val (.int s0), .val (.int s1), .val (.int (0 : Int32)), .val (.ref tx), .val (.ref br), .val (.ref b1), .val (.int (0 : Int32))] [(.int (f_is2_2 (nar .byte ((nar .char t0)).toInt8.toInt32) (nar .byte ((nar .char t1)).toInt8.toInt32) (nar .byte ((nar .char s0)).toInt8.toInt32) (nar .byte ((nar .char s1)).toInt8.toInt32)))]))) (fun t k => st11.trans k) ?_
      refine Wp.back (U' := (T11.setTop (mkF m 224 #[.val (.int p0), .val (.int p1), .val (.int p2), .val (.int p3), .val (.int p4), .val (.int p5), .val (.int (4 : Int32)), .val (.int (2 : Int32)), .val (.int (2 : Int32)), .val (.int t0), .val (.int t1), .val (.int s0), .val (.int s1), .val (.int (0 : Int32)), .val (.ref tx), .val (.ref br), .val (.ref b1), .val (.int (0 : Int32))] [(.int (1 : Int32))]))) (fun t k => XS.iload X11.here hx rfl (hb hby at_214) rfl (XS.icmpNo X11.here hx rfl (hb hby at_216) rfl (teq ((own_i2 _ _ _ _).2.2 (fun q => c197_8 (own_inj ht1 hs1 q)))).2 (XT.iconstV X11.here hx rfl (1 : Int32) (hb hby at_219) (by decide) (XS.goto X11.here hx rfl (pc0 := 220) (pc' := 224) rfl (hb hby at_220) (by decide) (by decide) k)))) ?_
      obtain ⟨fs, hr, hrun, hended, hend⟩ := X11.leaveW hS0 f12_8 (v := (some (.int (1 : Int32)))) (fun h => by rw [hret] at h; cases h)
      refine Wp.done (retN X11 hx (t := .boolean) hret (by simp) (hb hby at_224) hr) hrun hended ⟨_, _, rfl, ?_, hend.1, hend.2.1, hend.2.2.1, hend.2.2.2.mono (by decide) (by decide)⟩
      show QL n0 _ T11.heap _
      exact ⟨rfl, N11⟩
  · refine Wp.back (U' := (T5.setTop (mkF m 211 #[.val (.int p0), .val (.int p1), .val (.int p2), .val (.int p3), .val (.int p4), .val (.int p5), .val (.int (4 : Int32)), .val (.int (2 : Int32)), .val (.int (2 : Int32)), .val (.int t0), .val (.int t1), .val (.int s0), .val (.int s1), .val (.int (0 : Int32)), .val (.ref tx), .val (.ref br), .val (.ref b1), .val (.int (0 : Int32))] [(.ref br), (.ref b1)]))) (fun t k => XS.icmpYes X5.here hx rfl (pc0 := 184) (pc' := 204) rfl (hb hby at_184) rfl (feq c184_7).2 (by decide) (by decide) (XT.iconstV X5.here hx rfl (0 : Int32) (hb hby at_204) (by decide) (XS.istore X5.here hx rfl (hb hby at_205) rfl (l' := #[.val (.int p0), .val (.int p1), .val (.int p2), .val (.int p3), .val (.int p4), .val (.int p5), .val (.int (4 : Int32)), .val (.int (2 : Int32)), .val (.int (2 : Int32)), .val (.int t0), .val (.int t1), .val (.int s0), .val (.int s1), .val (.int (0 : Int32)), .val (.ref tx), .val (.ref br), .val (.ref b1), .val (.int (0 : Int32))]) rfl (XS.aload X5.here hx rfl (hb hby at_207) rfl rfl (XS.aload X5.here hx rfl (hb hby at_209) rfl rfl k))))) ?_
    obtain ⟨cq13, kq13, q13a, q13b, q13c⟩ := isOf hZ rfl o5_0
    obtain ⟨_, _, ⟨T13, L13, k13, n13⟩, -, X13, ⟨Lc13, hQ13, l13, y13, z13⟩, st13⟩ := X5.virtualBack hx (y := (⟨"com/example/query_to_table/querytotable/sql/Token", "isSymbol", "(Ljava/lang/String;)Z"⟩ : MethodName)) (z := (⟨"com/example/query_to_table/querytotable/sql/Token", "isSymbol", "(Ljava/lang/String;)Z"⟩ : MethodName)) hown (mvT hZ (hw _ (List.mem_of_getElem? (i := 55) rfl))) (mvT hZ (hw _ (List.mem_of_getElem? (i := 56) rfl))) (notFace_of_selects (args := #[]) (mvT hZ (hw _ (List.mem_of_getElem? (i := 58) rfl)))) (mvT hZ (hw _ (List.mem_of_getElem? (i := 58) rfl))) (mvT hZ (hw _ (List.mem_of_getElem? (i := 57) rfl))) (by decide) (backOf (W := 0) (rm_is2_2 l Z a0 hw [] b1 br tx u4 a1 k1 a2 k2 cs (nar .byte ((nar .char t0)).toInt8.toInt32) (nar .byte ((nar .char t1)).toInt8.toInt32) (nar .byte ((nar .char s0)).toInt8.toInt32) (nar .byte ((nar .char s1)).toInt8.toInt32) T5.heap n0 f6_0 o5_1 f6_5 o5_2 f6_9 f6_10 f6_11 f6_12 f6_13 f6_14 f6_15 f6_16 f6_7 n_tb hcs) hZ (hw _ (List.mem_of_getElem? (i := 59) rfl)) (hw _ (List.mem_of_getElem? (i := 29) rfl)) (by decide) (by decide)) q13a q13c (g := (mkF m 211 #[.val (.int p0), .val (.int p1), .val (.int p2), .val (.int p3), .val (.int p4), .val (.int p5), .val (.int (4 : Int32)), .val (.int (2 : Int32)), .val (.int (2 : Int32)), .val (.int t0), .val (.int t1), .val (.int s0), .val (.int s1), .val (.int (0 : Int32)), .val (.ref tx), .val (.ref br), .val (.ref b1), .val (.int (0 : Int32))] [(.ref br), (.ref b1)])) rfl (by rw [hml]; rfl) (Steps.refl _) (argsL := [(.ref br)]) (rest := []) (lenOf own_t4_2pd0_2 rfl) rfl (by show 2 * 0 + _ ≤ _; exact Nat.le_of_eq rfl) (hb hby at_211) (fun _ _ => ⟨rfl, rfl, (by decide : 13 + 0 ≤ _), (by decide : 69 + 0 ≤ _)⟩)
    dsimp only [Pt.U, Pt.locs, Pt.cells, Pt.slots] at X13 l13 y13 z13 st13 hQ13
    subst l13 y13 z13
    obtain ⟨rfl, N13q, K13⟩ := hQ13
    have f14_0 := Nat.le_trans f6_0 K13.1
    have f14_1 := Sta_keep0 f6_1 K13
    have f14_2 := Sta_keep0 f6_2 K13
    have f14_3 := Sta_keep0 f6_3 K13
    have f14_4 := Sta_keep0 f6_4 K13
    have f14_5 := Sta_keep0 f6_5 K13
    have f14_6 := Sta_keep0 f6_6 K13
    have f14_7 := Sta_keep0 f6_7 K13
    have f14_8 := Nat.le_trans f6_8 K13.1
    have f14_9 := f6_9.keep K13
    have f14_10 := f6_10.keep K13 nin0
    have f14_11 := f6_11.keep K13 nin0
    have f14_12 := f6_12.keep K13 nin0
    have f14_13 := f6_13.keep K13
    have f14_14 := f6_14.keep K13 nin0
    have f14_15 := f6_15.keep K13 nin0
    have f14_16 := f6_16.keep K13 nin0
    have f14_17 := o5_0.keep K13
    have f14_18 := o5_1.keep K13 nin0
    have f14_19 := o5_2.keep K13 nin0
    have N13 := Fr.app N5 N13q
    refine Wp.back (U' := (T13.setTop (mkF m 214 #[.val (.int p0), .val (.int p1), .val (.int p2), .val (.int p3), .val (.int p4), .val (.int p5), .val (.int (4 : Int32)), .val (.int (2 : Int32)), .val (.int (2 : Int32)), .val (.int t0), .val (.int t1), .val (.int s0), .val (.int s1), .val (.int (0 : Int32)), .val (.ref tx), .val (.ref br), .val (.ref b1), .val (.int (0 : Int32))] [(.int (f_is2_2 (nar .byte ((nar .char t0)).toInt8.toInt32) (nar .byte ((nar .char t1)).toInt8.toInt32) (nar .byte ((nar .char s0)).toInt8.toInt32) (nar .byte ((nar .char s1)).toInt8.toInt32)))]))) (fun t k => st13.trans k) ?_
    refine Wp.back (U' := (T13.setTop (mkF m 224 #[.val (.int p0), .val (.int p1), .val (.int p2), .val (.int p3), .val (.int p4), .val (.int p5), .val (.int (4 : Int32)), .val (.int (2 : Int32)), .val (.int (2 : Int32)), .val (.int t0), .val (.int t1), .val (.int s0), .val (.int s1), .val (.int (0 : Int32)), .val (.ref tx), .val (.ref br), .val (.ref b1), .val (.int (0 : Int32))] [(.int (1 : Int32))]))) (fun t k => XS.iload X13.here hx rfl (hb hby at_214) rfl (XS.icmpNo X13.here hx rfl (hb hby at_216) rfl (teq ((own_i2 _ _ _ _).2.1 (fun q => c184_7 (own_inj ht0 hs0 q)))).2 (XT.iconstV X13.here hx rfl (1 : Int32) (hb hby at_219) (by decide) (XS.goto X13.here hx rfl (pc0 := 220) (pc' := 224) rfl (hb hby at_220) (by decide) (by decide) k)))) ?_
    obtain ⟨fs, hr, hrun, hended, hend⟩ := X13.leaveW hS0 f14_8 (v := (some (.int (1 : Int32)))) (fun h => by rw [hret] at h; cases h)
    refine Wp.done (retN X13 hx (t := .boolean) hret (by simp) (hb hby at_224) hr) hrun hended ⟨_, _, rfl, ?_, hend.1, hend.2.1, hend.2.2.1, hend.2.2.2.mono (by decide) (by decide)⟩
    show QL n0 _ T13.heap _
    exact ⟨rfl, N13⟩
theorem own_tailpd0_0 : parseMethodDescriptor "(ICC)Ljava/lang/String;" = some ⟨[.int, .char, .char], some (.object "java/lang/String")⟩ := by decide +kernel
set_option maxRecDepth 65536 in
set_option maxHeartbeats 40000000 in
theorem own_tail {p : Program} {l : Launch} {e : Env} {s : State} {m : MethodId} {args : Array Value} {below : List Frame} {meth : Method} {c : Code} {T0 : State} {locs : List Loc} {Z : State} {a0 : Array Value} {hA : Heap} {n0 : Nat} {vm0 : Vm} {kk : Nat} (p0 p1 p2 p3 p4 p5 kx lt ls t0 t1 s0 s1 : Int32) (u0 u1 u2 u3 u4 u5 : Addr) (cs : Int32)
    (hx : p.tables.exec = Jvm.exec) (hw : ∀ d ∈ tables_1, d.before a0 Z = true) (hby : c.code = code) (hml : c.maxLocals = 18) (hret : meth.sig.returnType = ret) (hlk : meth.locks = false) (hZ : Z.Warmed39 (s.setVm vm0).vm) (hown : (s.setVm vm0).vm.findClass "com/example/query_to_table/querytotable/sql/TokenIsSymbolPinLaw" = some m.cls) (X0 : Stand p l e room_1 (s.setVm vm0) m args below meth c T0 locs 0 0) (e0 : T0.heap = hA) (N0 : Fr n0 locs) (Z0 : n0 ≤ hA.size) (hS0 : s.Since vm0 kk) (hk0 : kk ≤ hA.size) (SK0 : Sta Z hA "com/example/query_to_table/querytotable/sql/Token$Kind" "WORD" "Lcom/example/query_to_table/querytotable/sql/Token$Kind;" (.ref u0)) (SK1 : Sta Z hA "com/example/query_to_table/querytotable/sql/Token$Kind" "QUOTED_NAME" "Lcom/example/query_to_table/querytotable/sql/Token$Kind;" (.ref u1)) (SK2 : Sta Z hA "com/example/query_to_table/querytotable/sql/Token$Kind" "STRING" "Lcom/example/query_to_table/querytotable/sql/Token$Kind;" (.ref u2)) (SK3 : Sta Z hA "com/example/query_to_table/querytotable/sql/Token$Kind" "NUMBER" "Lcom/example/query_to_table/querytotable/sql/Token$Kind;" (.ref u3)) (SK4 : Sta Z hA "com/example/query_to_table/querytotable/sql/Token$Kind" "SYMBOL" "Lcom/example/query_to_table/querytotable/sql/Token$Kind;" (.ref u4)) (SK5 : Sta Z hA "com/example/query_to_table/querytotable/sql/Token$Kind" "UNCLOSED" "Lcom/example/query_to_table/querytotable/sql/Token$Kind;" (.ref u5)) (PC : Sta Z hA "java/lang/String" "COMPACT_STRINGS" "Z" (.int cs)) (hCH : CHv Z consts_1 vm0 hA) (hcs : ¬ cs = (0 : Int32)) (hlt : lt = (0 : Int32) ∨ lt = (1 : Int32) ∨ lt = (2 : Int32)) (hls : ls = (0 : Int32) ∨ ls = (1 : Int32) ∨ ls = (2 : Int32)) (ht0 : 0 ≤ t0.toInt ∧ t0.toInt ≤ 255) (ht1 : 0 ≤ t1.toInt ∧ t1.toInt ≤ 255) (hs0 : 0 ≤ s0.toInt ∧ s0.toInt ≤ 255) (hs1 : 0 ≤ s1.toInt ∧ s1.toInt ≤ 255) (nu0 : u0 ≠ u4) (nu1 : u1 ≠ u4) (nu2 : u2 ≠ u4) (nu3 : u3 ≠ u4) (nu5 : u5 ≠ u4) :
    Wp p e below (fun o s₂ => ∃ v L, o = .returned v ∧ QL n0 v s₂.heap L ∧ ReturnedEndW s o s₂ L 24 1152) (T0.setTop (mkF m 88 #[.val (.int p0), .val (.int p1), .val (.int p2), .val (.int p3), .val (.int p4), .val (.int p5), .val (.int kx), .val (.int lt), .val (.int ls), .val (.int t0), .val (.int t1), .val (.int s0), .val (.int s1), .unset, .unset, .unset, .unset, .unset] [])) := by
  have hEL : EW Z a0 consts_1 := own_EW hw
  have wS := own_wS hw
  refine Wp.back (U' := (T0.setTop (mkF m 96 #[.val (.int p0), .val (.int p1), .val (.int p2), .val (.int p3), .val (.int p4), .val (.int p5), .val (.int kx), .val (.int lt), .val (.int ls), .val (.int t0), .val (.int t1), .val (.int s0), .val (.int s1), .unset, .unset, .unset, .unset, .unset] [(.int ((((p5).toUInt32 >>> ((6 : Int32) &&& 31).toUInt32).toInt32) &&& (7 : Int32)))]))) (fun t k => XS.iload X0.here hx rfl (hb hby at_88) rfl (XT.bipushV X0.here hx rfl (6 : Int32) (hb hby at_90) (by decide) (XS.iushr X0.here hx rfl (hb hby at_92) rfl (XT.bipushV X0.here hx rfl (7 : Int32) (hb hby at_93) (by decide) (XS.iand X0.here hx rfl (hb hby at_95) rfl k))))) ?_
  by_cases c96_1 : ((((p5).toUInt32 >>> ((6 : Int32) &&& 31).toUInt32).toInt32) &&& (7 : Int32)) = (0 : Int32)
  · refine Wp.back (U' := (T0.setTop (mkF m 106 #[.val (.int p0), .val (.int p1), .val (.int p2), .val (.int p3), .val (.int p4), .val (.int p5), .val (.int kx), .val (.int lt), .val (.int ls), .val (.int t0), .val (.int t1), .val (.int s0), .val (.int s1), .val (.int (1 : Int32)), .unset, .unset, .unset, .unset] []))) (fun t k => XS.ifNo X0.here hx rfl (hb hby at_96) rfl ((if0 _ _).trans (teq c96_1).2) (XT.iconstV X0.here hx rfl (1 : Int32) (hb hby at_99) (by decide) (XS.goto X0.here hx rfl (pc0 := 100) (pc' := 104) rfl (hb hby at_100) (by decide) (by decide) (XS.istore X0.here hx rfl (hb hby at_104) rfl (l' := #[.val (.int p0), .val (.int p1), .val (.int p2), .val (.int p3), .val (.int p4), .val (.int p5), .val (.int kx), .val (.int lt), .val (.int ls), .val (.int t0), .val (.int t1), .val (.int s0), .val (.int s1), .val (.int (1 : Int32)), .unset, .unset, .unset, .unset]) rfl k)))) ?_
    rcases hlt with rfl | rfl | rfl
    · refine Wp.back (U' := (T0.setTop (mkF m 112 #[.val (.int p0), .val (.int p1), .val (.int p2), .val (.int p3), .val (.int p4), .val (.int p5), .val (.int kx), .val (.int (0 : Int32)), .val (.int ls), .val (.int t0), .val (.int t1), .val (.int s0), .val (.int s1), .val (.int (1 : Int32)), .unset, .unset, .unset, .unset] [(.int t1), (.int t0), (.int (0 : Int32))]))) (fun t k => XS.iload X0.here hx rfl (hb hby at_106) rfl (XS.iload X0.here hx rfl (hb hby at_108) rfl (XS.iload X0.here hx rfl (hb hby at_110) rfl k))) ?_
      obtain ⟨_, _, ⟨T2, L2, k2, n2⟩, -, X2, hS2, gr2, ⟨Lc2, hQ2, l2, y2, z2, R2⟩, st2⟩ := callSS X0 hx (y := (⟨"com/example/query_to_table/querytotable/sql/TokenIsSymbolPinLaw", "mk", "(ICC)Ljava/lang/String;"⟩ : MethodName)) hown (mvT hZ (hw _ (List.mem_of_getElem? (i := 1) rfl))) (mvT hZ (hw _ (List.mem_of_getElem? (i := 2) rfl))) (mvT hZ (hw _ (List.mem_of_getElem? (i := 3) rfl))) (mvT hZ (hw _ (List.mem_of_getElem? (i := 4) rfl))) (by decide) (backOfSH (W := 0) (rm_mk0 l Z a0 hw [] t0 t1  hA n0 Z0 ) hZ (hw _ (List.mem_of_getElem? (i := 4) rfl)) (hw _ (List.mem_of_getElem? (i := 3) rfl)) (by decide) (by decide) hEL hCH) (g := (mkF m 112 #[.val (.int p0), .val (.int p1), .val (.int p2), .val (.int p3), .val (.int p4), .val (.int p5), .val (.int kx), .val (.int (0 : Int32)), .val (.int ls), .val (.int t0), .val (.int t1), .val (.int s0), .val (.int s1), .val (.int (1 : Int32)), .unset, .unset, .unset, .unset] [(.int t1), (.int t0), (.int (0 : Int32))])) rfl (by rw [hml]; rfl) (argsL := [(.int (0 : Int32)), (.int t0), (.int t1)]) (rest := []) (lenOf own_tailpd0_0 rfl) rfl (by show 2 * 0 + _ ≤ _; exact Nat.le_of_eq rfl) (hb hby at_112) (fun _ _ => ⟨rfl, e0, (by decide : 0 + 6 ≤ _), (by decide : 0 + 12 ≤ _)⟩)
      dsimp only [Pt.U, Pt.locs, Pt.cells, Pt.slots] at X2 l2 y2 z2 st2 hQ2 hS2 gr2 R2
      subst l2 y2 z2
      obtain ⟨X2, hS2, hZ, hown⟩ := rebS hS0 (by rw [e0]; exact hk0) X2 hS2 gr2 hZ hown
      obtain ⟨b2_0, x2_0, k2_0, rfl, N2q, K2, sf2_0, o2_0, o2_1, o2_2, o2_3⟩ := hQ2
      have g_b2_0 : n0 ≤ b2_0 := Nat.le_trans Z0 sf2_0
      have f3_0 := Nat.le_trans Z0 K2.1
      have f3_1 := Sta_keep0 SK0 K2
      have f3_2 := Sta_keep0 SK1 K2
      have f3_3 := Sta_keep0 SK2 K2
      have f3_4 := Sta_keep0 SK3 K2
      have f3_5 := Sta_keep0 SK4 K2
      have f3_6 := Sta_keep0 SK5 K2
      have f3_7 := Sta_keep0 PC K2
      have f3_8 := R2.1
      have f3_9 := Nat.le_refl T2.heap.size
      have N2 := Fr.app N0 N2q
      refine Wp.back (U' := (T2.setTop (mkF m 115 #[.val (.int p0), .val (.int p1), .val (.int p2), .val (.int p3), .val (.int p4), .val (.int p5), .val (.int kx), .val (.int (0 : Int32)), .val (.int ls), .val (.int t0), .val (.int t1), .val (.int s0), .val (.int s1), .val (.int (1 : Int32)), .unset, .unset, .unset, .unset] [(.ref b2_0)]))) (fun t k => st2.trans k) ?_
      refine Wp.back (U' := (T2.setTop (mkF m 137 #[.val (.int p0), .val (.int p1), .val (.int p2), .val (.int p3), .val (.int p4), .val (.int p5), .val (.int kx), .val (.int (0 : Int32)), .val (.int ls), .val (.int t0), .val (.int t1), .val (.int s0), .val (.int s1), .val (.int (1 : Int32)), .val (.ref b2_0), .val .null, .unset, .unset] []))) (fun t k => XS.astore X2.here hx rfl (hb hby at_115) rfl rfl (l' := #[.val (.int p0), .val (.int p1), .val (.int p2), .val (.int p3), .val (.int p4), .val (.int p5), .val (.int kx), .val (.int (0 : Int32)), .val (.int ls), .val (.int t0), .val (.int t1), .val (.int s0), .val (.int s1), .val (.int (1 : Int32)), .val (.ref b2_0), .unset, .unset, .unset]) rfl (XS.iload X2.here hx rfl (hb hby at_117) rfl (XS.ifNo X2.here hx rfl (hb hby at_119) rfl ((if0 _ _).trans (feq (by decide)).1) (XS.aconstNull X2.here hx rfl (hb hby at_122) (XS.goto X2.here hx rfl (pc0 := 123) (pc' := 135) rfl (hb hby at_123) (by decide) (by decide) (XS.astore X2.here hx rfl (hb hby at_135) rfl rfl (l' := #[.val (.int p0), .val (.int p1), .val (.int p2), .val (.int p3), .val (.int p4), .val (.int p5), .val (.int kx), .val (.int (0 : Int32)), .val (.int ls), .val (.int t0), .val (.int t1), .val (.int s0), .val (.int s1), .val (.int (1 : Int32)), .val (.ref b2_0), .val .null, .unset, .unset]) rfl k)))))) ?_
      by_cases hk4 : kx = (4 : Int32)
      · subst hk4
        exact own_t4n (p0) (p1) (p2) (p3) (p4) (p5) ((0 : Int32)) (ls) (t0) (t1) (s0) (s1) (u0) (u1) (u2) (u3) (u4) (u5) (cs) (b2_0) hx hw hby hml hret hlk hZ hown (own_more X2 (by decide) (by decide)) rfl N2 f3_0 hS2 f3_9 f3_1 f3_2 f3_3 f3_4 f3_5 f3_6 f3_7 o2_0 hcs nu0 nu1 nu2 nu3 nu5
      · have hk4' := hk4
        exact own_txn (p0) (p1) (p2) (p3) (p4) (p5) (kx) ((0 : Int32)) (ls) (t0) (t1) (s0) (s1) (u0) (u1) (u2) (u3) (u4) (u5) (cs) (b2_0) hx hw hby hml hret hlk hZ hown (own_more X2 (by decide) (by decide)) rfl N2 f3_0 hS2 f3_9 f3_1 f3_2 f3_3 f3_4 f3_5 f3_6 f3_7 hcs nu0 nu1 nu2 nu3 nu5 hk4
    · refine Wp.back (U' := (T0.setTop (mkF m 112 #[.val (.int p0), .val (.int p1), .val (.int p2), .val (.int p3), .val (.int p4), .val (.int p5), .val (.int kx), .val (.int (1 : Int32)), .val (.int ls), .val (.int t0), .val (.int t1), .val (.int s0), .val (.int s1), .val (.int (1 : Int32)), .unset, .unset, .unset, .unset] [(.int t1), (.int t0), (.int (1 : Int32))]))) (fun t k => XS.iload X0.here hx rfl (hb hby at_106) rfl (XS.iload X0.here hx rfl (hb hby at_108) rfl (XS.iload X0.here hx rfl (hb hby at_110) rfl k))) ?_
      obtain ⟨_, _, ⟨T4, L4, k4, n4⟩, -, X4, ⟨Lc4, hQ4, l4, y4, z4⟩, st4⟩ := Jvm.LawKit.callS X0 hx (y := (⟨"com/example/query_to_table/querytotable/sql/TokenIsSymbolPinLaw", "mk", "(ICC)Ljava/lang/String;"⟩ : MethodName)) hown (mvT hZ (hw _ (List.mem_of_getElem? (i := 1) rfl))) (mvT hZ (hw _ (List.mem_of_getElem? (i := 2) rfl))) (mvT hZ (hw _ (List.mem_of_getElem? (i := 3) rfl))) (mvT hZ (hw _ (List.mem_of_getElem? (i := 4) rfl))) (by decide) (backOf (W := 0) (rm_mk1 l Z a0 hw [] t0 t1 cs hA n0 Z0 PC (own_255 ht0) hcs) hZ (hw _ (List.mem_of_getElem? (i := 4) rfl)) (hw _ (List.mem_of_getElem? (i := 3) rfl)) (by decide) (by decide)) (g := (mkF m 112 #[.val (.int p0), .val (.int p1), .val (.int p2), .val (.int p3), .val (.int p4), .val (.int p5), .val (.int kx), .val (.int (1 : Int32)), .val (.int ls), .val (.int t0), .val (.int t1), .val (.int s0), .val (.int s1), .val (.int (1 : Int32)), .unset, .unset, .unset, .unset] [(.int t1), (.int t0), (.int (1 : Int32))])) rfl (by rw [hml]; rfl) (argsL := [(.int (1 : Int32)), (.int t0), (.int t1)]) (rest := []) (lenOf own_tailpd0_0 rfl) rfl (by show 2 * 0 + _ ≤ _; exact Nat.le_of_eq rfl) (hb hby at_112) (fun _ _ => ⟨rfl, e0, (by decide : 0 + 3 ≤ _), (by decide : 0 + 6 ≤ _)⟩)
      dsimp only [Pt.U, Pt.locs, Pt.cells, Pt.slots] at X4 l4 y4 z4 st4 hQ4
      subst l4 y4 z4
      obtain ⟨b4_0, b4_1, k4_0, rfl, N4q, K4, sf4_0, sf4_1, o4_0, o4_1, o4_2, o4_3⟩ := hQ4
      have g_b4_0 : n0 ≤ b4_0 := Nat.le_trans Z0 sf4_0
      have g_b4_1 : n0 ≤ b4_1 := Nat.le_trans Z0 sf4_1
      have sf_b4_0 : Safe Z consts_1 vm0 hA b4_0 := Safe.new sf4_0
      have sf_b4_1 : Safe Z consts_1 vm0 hA b4_1 := Safe.new sf4_1
      have f5_0 := Nat.le_trans Z0 K4.1
      have f5_1 := Sta_keep0 SK0 K4
      have f5_2 := Sta_keep0 SK1 K4
      have f5_3 := Sta_keep0 SK2 K4
      have f5_4 := Sta_keep0 SK3 K4
      have f5_5 := Sta_keep0 SK4 K4
      have f5_6 := Sta_keep0 SK5 K4
      have f5_7 := Sta_keep0 PC K4
      have f5_8 := CHv.keep K4 sf0 hCH
      have f5_9 := Nat.le_trans hk0 K4.1
      have f5_10 := Safe.keep K4 sf0 hCH sf_b4_0
      have f5_11 := Safe.keep K4 sf0 hCH sf_b4_1
      have N4 := Fr.app N0 N4q
      refine Wp.back (U' := (T4.setTop (mkF m 115 #[.val (.int p0), .val (.int p1), .val (.int p2), .val (.int p3), .val (.int p4), .val (.int p5), .val (.int kx), .val (.int (1 : Int32)), .val (.int ls), .val (.int t0), .val (.int t1), .val (.int s0), .val (.int s1), .val (.int (1 : Int32)), .unset, .unset, .unset, .unset] [(.ref b4_0)]))) st4 ?_
      refine Wp.back (U' := (T4.setTop (mkF m 137 #[.val (.int p0), .val (.int p1), .val (.int p2), .val (.int p3), .val (.int p4), .val (.int p5), .val (.int kx), .val (.int (1 : Int32)), .val (.int ls), .val (.int t0), .val (.int t1), .val (.int s0), .val (.int s1), .val (.int (1 : Int32)), .val (.ref b4_0), .val .null, .unset, .unset] []))) (fun t k => XS.astore X4.here hx rfl (hb hby at_115) rfl rfl (l' := #[.val (.int p0), .val (.int p1), .val (.int p2), .val (.int p3), .val (.int p4), .val (.int p5), .val (.int kx), .val (.int (1 : Int32)), .val (.int ls), .val (.int t0), .val (.int t1), .val (.int s0), .val (.int s1), .val (.int (1 : Int32)), .val (.ref b4_0), .unset, .unset, .unset]) rfl (XS.iload X4.here hx rfl (hb hby at_117) rfl (XS.ifNo X4.here hx rfl (hb hby at_119) rfl ((if0 _ _).trans (feq (by decide)).1) (XS.aconstNull X4.here hx rfl (hb hby at_122) (XS.goto X4.here hx rfl (pc0 := 123) (pc' := 135) rfl (hb hby at_123) (by decide) (by decide) (XS.astore X4.here hx rfl (hb hby at_135) rfl rfl (l' := #[.val (.int p0), .val (.int p1), .val (.int p2), .val (.int p3), .val (.int p4), .val (.int p5), .val (.int kx), .val (.int (1 : Int32)), .val (.int ls), .val (.int t0), .val (.int t1), .val (.int s0), .val (.int s1), .val (.int (1 : Int32)), .val (.ref b4_0), .val .null, .unset, .unset]) rfl k)))))) ?_
      by_cases hk4 : kx = (4 : Int32)
      · subst hk4
        exact own_t4n (p0) (p1) (p2) (p3) (p4) (p5) ((1 : Int32)) (ls) (t0) (t1) (s0) (s1) (u0) (u1) (u2) (u3) (u4) (u5) (cs) (b4_0) hx hw hby hml hret hlk hZ hown (own_more X4 (by decide) (by decide)) rfl N4 f5_0 hS0 f5_9 f5_1 f5_2 f5_3 f5_4 f5_5 f5_6 f5_7 o4_0 hcs nu0 nu1 nu2 nu3 nu5
      · have hk4' := hk4
        exact own_txn (p0) (p1) (p2) (p3) (p4) (p5) (kx) ((1 : Int32)) (ls) (t0) (t1) (s0) (s1) (u0) (u1) (u2) (u3) (u4) (u5) (cs) (b4_0) hx hw hby hml hret hlk hZ hown (own_more X4 (by decide) (by decide)) rfl N4 f5_0 hS0 f5_9 f5_1 f5_2 f5_3 f5_4 f5_5 f5_6 f5_7 hcs nu0 nu1 nu2 nu3 nu5 hk4
    · refine Wp.back (U' := (T0.setTop (mkF m 112 #[.val (.int p0), .val (.int p1), .val (.int p2), .val (.int p3), .val (.int p4), .val (.int p5), .val (.int kx), .val (.int (2 : Int32)), .val (.int ls), .val (.int t0), .val (.int t1), .val (.int s0), .val (.int s1), .val (.int (1 : Int32)), .unset, .unset, .unset, .unset] [(.int t1), (.int t0), (.int (2 : Int32))]))) (fun t k => XS.iload X0.here hx rfl (hb hby at_106) rfl (XS.iload X0.here hx rfl (hb hby at_108) rfl (XS.iload X0.here hx rfl (hb hby at_110) rfl k))) ?_
      obtain ⟨_, _, ⟨T6, L6, k6, n6⟩, -, X6, ⟨Lc6, hQ6, l6, y6, z6⟩, st6⟩ := Jvm.LawKit.callS X0 hx (y := (⟨"com/example/query_to_table/querytotable/sql/TokenIsSymbolPinLaw", "mk", "(ICC)Ljava/lang/String;"⟩ : MethodName)) hown (mvT hZ (hw _ (List.mem_of_getElem? (i := 1) rfl))) (mvT hZ (hw _ (List.mem_of_getElem? (i := 2) rfl))) (mvT hZ (hw _ (List.mem_of_getElem? (i := 3) rfl))) (mvT hZ (hw _ (List.mem_of_getElem? (i := 4) rfl))) (by decide) (backOf (W := 0) (rm_mk2 l Z a0 hw [] t0 t1 cs hA n0 Z0 PC (own_255 ht0) (own_255 ht1) hcs) hZ (hw _ (List.mem_of_getElem? (i := 4) rfl)) (hw _ (List.mem_of_getElem? (i := 3) rfl)) (by decide) (by decide)) (g := (mkF m 112 #[.val (.int p0), .val (.int p1), .val (.int p2), .val (.int p3), .val (.int p4), .val (.int p5), .val (.int kx), .val (.int (2 : Int32)), .val (.int ls), .val (.int t0), .val (.int t1), .val (.int s0), .val (.int s1), .val (.int (1 : Int32)), .unset, .unset, .unset, .unset] [(.int t1), (.int t0), (.int (2 : Int32))])) rfl (by rw [hml]; rfl) (argsL := [(.int (2 : Int32)), (.int t0), (.int t1)]) (rest := []) (lenOf own_tailpd0_0 rfl) rfl (by show 2 * 0 + _ ≤ _; exact Nat.le_of_eq rfl) (hb hby at_112) (fun _ _ => ⟨rfl, e0, (by decide : 0 + 3 ≤ _), (by decide : 0 + 8 ≤ _)⟩)
      dsimp only [Pt.U, Pt.locs, Pt.cells, Pt.slots] at X6 l6 y6 z6 st6 hQ6
      subst l6 y6 z6
      obtain ⟨b6_0, b6_1, k6_0, rfl, N6q, K6, sf6_0, sf6_1, o6_0, o6_1, o6_2, o6_3⟩ := hQ6
      have g_b6_0 : n0 ≤ b6_0 := Nat.le_trans Z0 sf6_0
      have g_b6_1 : n0 ≤ b6_1 := Nat.le_trans Z0 sf6_1
      have sf_b6_0 : Safe Z consts_1 vm0 hA b6_0 := Safe.new sf6_0
      have sf_b6_1 : Safe Z consts_1 vm0 hA b6_1 := Safe.new sf6_1
      have f7_0 := Nat.le_trans Z0 K6.1
      have f7_1 := Sta_keep0 SK0 K6
      have f7_2 := Sta_keep0 SK1 K6
      have f7_3 := Sta_keep0 SK2 K6
      have f7_4 := Sta_keep0 SK3 K6
      have f7_5 := Sta_keep0 SK4 K6
      have f7_6 := Sta_keep0 SK5 K6
      have f7_7 := Sta_keep0 PC K6
      have f7_8 := CHv.keep K6 sf0 hCH
      have f7_9 := Nat.le_trans hk0 K6.1
      have f7_10 := Safe.keep K6 sf0 hCH sf_b6_0
      have f7_11 := Safe.keep K6 sf0 hCH sf_b6_1
      have N6 := Fr.app N0 N6q
      refine Wp.back (U' := (T6.setTop (mkF m 115 #[.val (.int p0), .val (.int p1), .val (.int p2), .val (.int p3), .val (.int p4), .val (.int p5), .val (.int kx), .val (.int (2 : Int32)), .val (.int ls), .val (.int t0), .val (.int t1), .val (.int s0), .val (.int s1), .val (.int (1 : Int32)), .unset, .unset, .unset, .unset] [(.ref b6_0)]))) st6 ?_
      refine Wp.back (U' := (T6.setTop (mkF m 137 #[.val (.int p0), .val (.int p1), .val (.int p2), .val (.int p3), .val (.int p4), .val (.int p5), .val (.int kx), .val (.int (2 : Int32)), .val (.int ls), .val (.int t0), .val (.int t1), .val (.int s0), .val (.int s1), .val (.int (1 : Int32)), .val (.ref b6_0), .val .null, .unset, .unset] []))) (fun t k => XS.astore X6.here hx rfl (hb hby at_115) rfl rfl (l' := #[.val (.int p0), .val (.int p1), .val (.int p2), .val (.int p3), .val (.int p4), .val (.int p5), .val (.int kx), .val (.int (2 : Int32)), .val (.int ls), .val (.int t0), .val (.int t1), .val (.int s0), .val (.int s1), .val (.int (1 : Int32)), .val (.ref b6_0), .unset, .unset, .unset]) rfl (XS.iload X6.here hx rfl (hb hby at_117) rfl (XS.ifNo X6.here hx rfl (hb hby at_119) rfl ((if0 _ _).trans (feq (by decide)).1) (XS.aconstNull X6.here hx rfl (hb hby at_122) (XS.goto X6.here hx rfl (pc0 := 123) (pc' := 135) rfl (hb hby at_123) (by decide) (by decide) (XS.astore X6.here hx rfl (hb hby at_135) rfl rfl (l' := #[.val (.int p0), .val (.int p1), .val (.int p2), .val (.int p3), .val (.int p4), .val (.int p5), .val (.int kx), .val (.int (2 : Int32)), .val (.int ls), .val (.int t0), .val (.int t1), .val (.int s0), .val (.int s1), .val (.int (1 : Int32)), .val (.ref b6_0), .val .null, .unset, .unset]) rfl k)))))) ?_
      by_cases hk4 : kx = (4 : Int32)
      · subst hk4
        exact own_t4n (p0) (p1) (p2) (p3) (p4) (p5) ((2 : Int32)) (ls) (t0) (t1) (s0) (s1) (u0) (u1) (u2) (u3) (u4) (u5) (cs) (b6_0) hx hw hby hml hret hlk hZ hown (own_more X6 (by decide) (by decide)) rfl N6 f7_0 hS0 f7_9 f7_1 f7_2 f7_3 f7_4 f7_5 f7_6 f7_7 o6_0 hcs nu0 nu1 nu2 nu3 nu5
      · have hk4' := hk4
        exact own_txn (p0) (p1) (p2) (p3) (p4) (p5) (kx) ((2 : Int32)) (ls) (t0) (t1) (s0) (s1) (u0) (u1) (u2) (u3) (u4) (u5) (cs) (b6_0) hx hw hby hml hret hlk hZ hown (own_more X6 (by decide) (by decide)) rfl N6 f7_0 hS0 f7_9 f7_1 f7_2 f7_3 f7_4 f7_5 f7_6 f7_7 hcs nu0 nu1 nu2 nu3 nu5 hk4
  · refine Wp.back (U' := (T0.setTop (mkF m 106 #[.val (.int p0), .val (.int p1), .val (.int p2), .val (.int p3), .val (.int p4), .val (.int p5), .val (.int kx), .val (.int lt), .val (.int ls), .val (.int t0), .val (.int t1), .val (.int s0), .val (.int s1), .val (.int (0 : Int32)), .unset, .unset, .unset, .unset] []))) (fun t k => XS.ifYes X0.here hx rfl (pc0 := 96) (pc' := 103) rfl (hb hby at_96) rfl ((if0 _ _).trans (feq c96_1).2) (by decide) (by decide) (XT.iconstV X0.here hx rfl (0 : Int32) (hb hby at_103) (by decide) (XS.istore X0.here hx rfl (hb hby at_104) rfl (l' := #[.val (.int p0), .val (.int p1), .val (.int p2), .val (.int p3), .val (.int p4), .val (.int p5), .val (.int kx), .val (.int lt), .val (.int ls), .val (.int t0), .val (.int t1), .val (.int s0), .val (.int s1), .val (.int (0 : Int32)), .unset, .unset, .unset, .unset]) rfl k))) ?_
    rcases hlt with rfl | rfl | rfl
    · refine Wp.back (U' := (T0.setTop (mkF m 112 #[.val (.int p0), .val (.int p1), .val (.int p2), .val (.int p3), .val (.int p4), .val (.int p5), .val (.int kx), .val (.int (0 : Int32)), .val (.int ls), .val (.int t0), .val (.int t1), .val (.int s0), .val (.int s1), .val (.int (0 : Int32)), .unset, .unset, .unset, .unset] [(.int t1), (.int t0), (.int (0 : Int32))]))) (fun t k => XS.iload X0.here hx rfl (hb hby at_106) rfl (XS.iload X0.here hx rfl (hb hby at_108) rfl (XS.iload X0.here hx rfl (hb hby at_110) rfl k))) ?_
      obtain ⟨_, _, ⟨T8, L8, k8, n8⟩, -, X8, hS8, gr8, ⟨Lc8, hQ8, l8, y8, z8, R8⟩, st8⟩ := callSS X0 hx (y := (⟨"com/example/query_to_table/querytotable/sql/TokenIsSymbolPinLaw", "mk", "(ICC)Ljava/lang/String;"⟩ : MethodName)) hown (mvT hZ (hw _ (List.mem_of_getElem? (i := 1) rfl))) (mvT hZ (hw _ (List.mem_of_getElem? (i := 2) rfl))) (mvT hZ (hw _ (List.mem_of_getElem? (i := 3) rfl))) (mvT hZ (hw _ (List.mem_of_getElem? (i := 4) rfl))) (by decide) (backOfSH (W := 0) (rm_mk0 l Z a0 hw [] t0 t1  hA n0 Z0 ) hZ (hw _ (List.mem_of_getElem? (i := 4) rfl)) (hw _ (List.mem_of_getElem? (i := 3) rfl)) (by decide) (by decide) hEL hCH) (g := (mkF m 112 #[.val (.int p0), .val (.int p1), .val (.int p2), .val (.int p3), .val (.int p4), .val (.int p5), .val (.int kx), .val (.int (0 : Int32)), .val (.int ls), .val (.int t0), .val (.int t1), .val (.int s0), .val (.int s1), .val (.int (0 : Int32)), .unset, .unset, .unset, .unset] [(.int t1), (.int t0), (.int (0 : Int32))])) rfl (by rw [hml]; rfl) (argsL := [(.int (0 : Int32)), (.int t0), (.int t1)]) (rest := []) (lenOf own_tailpd0_0 rfl) rfl (by show 2 * 0 + _ ≤ _; exact Nat.le_of_eq rfl) (hb hby at_112) (fun _ _ => ⟨rfl, e0, (by decide : 0 + 6 ≤ _), (by decide : 0 + 12 ≤ _)⟩)
      dsimp only [Pt.U, Pt.locs, Pt.cells, Pt.slots] at X8 l8 y8 z8 st8 hQ8 hS8 gr8 R8
      subst l8 y8 z8
      obtain ⟨X8, hS8, hZ, hown⟩ := rebS hS0 (by rw [e0]; exact hk0) X8 hS8 gr8 hZ hown
      obtain ⟨b8_0, x8_0, k8_0, rfl, N8q, K8, sf8_0, o8_0, o8_1, o8_2, o8_3⟩ := hQ8
      have g_b8_0 : n0 ≤ b8_0 := Nat.le_trans Z0 sf8_0
      have f9_0 := Nat.le_trans Z0 K8.1
      have f9_1 := Sta_keep0 SK0 K8
      have f9_2 := Sta_keep0 SK1 K8
      have f9_3 := Sta_keep0 SK2 K8
      have f9_4 := Sta_keep0 SK3 K8
      have f9_5 := Sta_keep0 SK4 K8
      have f9_6 := Sta_keep0 SK5 K8
      have f9_7 := Sta_keep0 PC K8
      have f9_8 := R8.1
      have f9_9 := Nat.le_refl T8.heap.size
      have N8 := Fr.app N0 N8q
      refine Wp.back (U' := (T8.setTop (mkF m 115 #[.val (.int p0), .val (.int p1), .val (.int p2), .val (.int p3), .val (.int p4), .val (.int p5), .val (.int kx), .val (.int (0 : Int32)), .val (.int ls), .val (.int t0), .val (.int t1), .val (.int s0), .val (.int s1), .val (.int (0 : Int32)), .unset, .unset, .unset, .unset] [(.ref b8_0)]))) (fun t k => st8.trans k) ?_
      refine Wp.back (U' := (T8.setTop (mkF m 126 #[.val (.int p0), .val (.int p1), .val (.int p2), .val (.int p3), .val (.int p4), .val (.int p5), .val (.int kx), .val (.int (0 : Int32)), .val (.int ls), .val (.int t0), .val (.int t1), .val (.int s0), .val (.int s1), .val (.int (0 : Int32)), .val (.ref b8_0), .unset, .unset, .unset] []))) (fun t k => XS.astore X8.here hx rfl (hb hby at_115) rfl rfl (l' := #[.val (.int p0), .val (.int p1), .val (.int p2), .val (.int p3), .val (.int p4), .val (.int p5), .val (.int kx), .val (.int (0 : Int32)), .val (.int ls), .val (.int t0), .val (.int t1), .val (.int s0), .val (.int s1), .val (.int (0 : Int32)), .val (.ref b8_0), .unset, .unset, .unset]) rfl (XS.iload X8.here hx rfl (hb hby at_117) rfl (XS.ifYes X8.here hx rfl (pc0 := 119) (pc' := 126) rfl (hb hby at_119) rfl ((if0 _ _).trans (teq (by decide)).1) (by decide) (by decide) k))) ?_
      rcases hls with rfl | rfl | rfl
      · refine Wp.back (U' := (T8.setTop (mkF m 132 #[.val (.int p0), .val (.int p1), .val (.int p2), .val (.int p3), .val (.int p4), .val (.int p5), .val (.int kx), .val (.int (0 : Int32)), .val (.int (0 : Int32)), .val (.int t0), .val (.int t1), .val (.int s0), .val (.int s1), .val (.int (0 : Int32)), .val (.ref b8_0), .unset, .unset, .unset] [(.int s1), (.int s0), (.int (0 : Int32))]))) (fun t k => XS.iload X8.here hx rfl (hb hby at_126) rfl (XS.iload X8.here hx rfl (hb hby at_128) rfl (XS.iload X8.here hx rfl (hb hby at_130) rfl k))) ?_
        obtain ⟨_, _, ⟨T10, L10, k10, n10⟩, -, X10, hS10, gr10, ⟨Lc10, hQ10, l10, y10, z10, R10⟩, st10⟩ := callSS X8 hx (y := (⟨"com/example/query_to_table/querytotable/sql/TokenIsSymbolPinLaw", "mk", "(ICC)Ljava/lang/String;"⟩ : MethodName)) hown (mvT hZ (hw _ (List.mem_of_getElem? (i := 1) rfl))) (mvT hZ (hw _ (List.mem_of_getElem? (i := 2) rfl))) (mvT hZ (hw _ (List.mem_of_getElem? (i := 3) rfl))) (mvT hZ (hw _ (List.mem_of_getElem? (i := 4) rfl))) (by decide) (backOfSH (W := 0) (rm_mk0 l Z a0 hw [] s0 s1  T8.heap n0 f9_0 ) hZ (hw _ (List.mem_of_getElem? (i := 4) rfl)) (hw _ (List.mem_of_getElem? (i := 3) rfl)) (by decide) (by decide) hEL f9_8) (g := (mkF m 132 #[.val (.int p0), .val (.int p1), .val (.int p2), .val (.int p3), .val (.int p4), .val (.int p5), .val (.int kx), .val (.int (0 : Int32)), .val (.int (0 : Int32)), .val (.int t0), .val (.int t1), .val (.int s0), .val (.int s1), .val (.int (0 : Int32)), .val (.ref b8_0), .unset, .unset, .unset] [(.int s1), (.int s0), (.int (0 : Int32))])) rfl (by rw [hml]; rfl) (argsL := [(.int (0 : Int32)), (.int s0), (.int s1)]) (rest := []) (lenOf own_tailpd0_0 rfl) rfl (by show 2 * 0 + _ ≤ _; exact Nat.le_of_eq rfl) (hb hby at_132) (fun _ _ => ⟨rfl, rfl, (by decide : 6 + 6 ≤ _), (by decide : 12 + 12 ≤ _)⟩)
        dsimp only [Pt.U, Pt.locs, Pt.cells, Pt.slots] at X10 l10 y10 z10 st10 hQ10 hS10 gr10 R10
        subst l10 y10 z10
        obtain ⟨X10, hS10, hZ, hown⟩ := rebS hS8 f9_9 X10 hS10 gr10 hZ hown
        obtain ⟨b10_0, x10_0, k10_0, rfl, N10q, K10, sf10_0, o10_0, o10_1, o10_2, o10_3⟩ := hQ10
        have ne_b8_0_b10_0 : b8_0 ≠ b10_0 := Nat.ne_of_lt (Nat.lt_of_lt_of_le o8_0.lt sf10_0)
        have ne_x8_0_b10_0 : x8_0 ≠ b10_0 := Nat.ne_of_lt (Nat.lt_of_lt_of_le o8_3.lt sf10_0)
        have g_b10_0 : n0 ≤ b10_0 := Nat.le_trans f9_0 sf10_0
        have f11_0 := Nat.le_trans f9_0 K10.1
        have f11_1 := Sta_keep0 f9_1 K10
        have f11_2 := Sta_keep0 f9_2 K10
        have f11_3 := Sta_keep0 f9_3 K10
        have f11_4 := Sta_keep0 f9_4 K10
        have f11_5 := Sta_keep0 f9_5 K10
        have f11_6 := Sta_keep0 f9_6 K10
        have f11_7 := Sta_keep0 f9_7 K10
        have f11_8 := R10.1
        have f11_9 := Nat.le_refl T10.heap.size
        have f11_10 := o8_0.keep K10
        have f11_11 := o8_1.keep K10 nin0
        have f11_12 := o8_2.keep K10 nin0
        have f11_13 := o8_3.keep K10 nin0
        have N10 := Fr.app N8 N10q
        refine Wp.back (U' := (T10.setTop (mkF m 135 #[.val (.int p0), .val (.int p1), .val (.int p2), .val (.int p3), .val (.int p4), .val (.int p5), .val (.int kx), .val (.int (0 : Int32)), .val (.int (0 : Int32)), .val (.int t0), .val (.int t1), .val (.int s0), .val (.int s1), .val (.int (0 : Int32)), .val (.ref b8_0), .unset, .unset, .unset] [(.ref b10_0)]))) (fun t k => st10.trans k) ?_
        refine Wp.back (U' := (T10.setTop (mkF m 137 #[.val (.int p0), .val (.int p1), .val (.int p2), .val (.int p3), .val (.int p4), .val (.int p5), .val (.int kx), .val (.int (0 : Int32)), .val (.int (0 : Int32)), .val (.int t0), .val (.int t1), .val (.int s0), .val (.int s1), .val (.int (0 : Int32)), .val (.ref b8_0), .val (.ref b10_0), .unset, .unset] []))) (fun t k => XS.astore X10.here hx rfl (hb hby at_135) rfl rfl (l' := #[.val (.int p0), .val (.int p1), .val (.int p2), .val (.int p3), .val (.int p4), .val (.int p5), .val (.int kx), .val (.int (0 : Int32)), .val (.int (0 : Int32)), .val (.int t0), .val (.int t1), .val (.int s0), .val (.int s1), .val (.int (0 : Int32)), .val (.ref b8_0), .val (.ref b10_0), .unset, .unset]) rfl k) ?_
        by_cases hk4 : kx = (4 : Int32)
        · subst hk4
          exact own_t4_0 (p0) (p1) (p2) (p3) (p4) (p5) (t0) (t1) (s0) (s1) (u0) (u1) (u2) (u3) (u4) (u5) (cs) (b8_0) (b10_0) (x8_0) (x10_0) (k8_0) (k10_0) hx hw hby hml hret hlk hZ hown (own_more X10 (by decide) (by decide)) rfl N10 f11_0 hS10 f11_9 f11_1 f11_2 f11_3 f11_4 f11_5 f11_6 f11_7 f11_10 f11_11 f11_12 f11_13 o10_0 o10_1 o10_2 o10_3 hcs nu0 nu1 nu2 nu3 nu5 ne_b8_0_b10_0 ht0 ht1 hs0 hs1
        · have hk4' := hk4
          exact own_txr (p0) (p1) (p2) (p3) (p4) (p5) (kx) ((0 : Int32)) ((0 : Int32)) (t0) (t1) (s0) (s1) (u0) (u1) (u2) (u3) (u4) (u5) (cs) (b8_0) (b10_0) hx hw hby hml hret hlk hZ hown (own_more X10 (by decide) (by decide)) rfl N10 f11_0 hS10 f11_9 f11_1 f11_2 f11_3 f11_4 f11_5 f11_6 f11_7 hcs nu0 nu1 nu2 nu3 nu5 hk4
      · refine Wp.back (U' := (T8.setTop (mkF m 132 #[.val (.int p0), .val (.int p1), .val (.int p2), .val (.int p3), .val (.int p4), .val (.int p5), .val (.int kx), .val (.int (0 : Int32)), .val (.int (1 : Int32)), .val (.int t0), .val (.int t1), .val (.int s0), .val (.int s1), .val (.int (0 : Int32)), .val (.ref b8_0), .unset, .unset, .unset] [(.int s1), (.int s0), (.int (1 : Int32))]))) (fun t k => XS.iload X8.here hx rfl (hb hby at_126) rfl (XS.iload X8.here hx rfl (hb hby at_128) rfl (XS.iload X8.here hx rfl (hb hby at_130) rfl k))) ?_
        obtain ⟨_, _, ⟨T12, L12, k12, n12⟩, -, X12, ⟨Lc12, hQ12, l12, y12, z12⟩, st12⟩ := Jvm.LawKit.callS X8 hx (y := (⟨"com/example/query_to_table/querytotable/sql/TokenIsSymbolPinLaw", "mk", "(ICC)Ljava/lang/String;"⟩ : MethodName)) hown (mvT hZ (hw _ (List.mem_of_getElem? (i := 1) rfl))) (mvT hZ (hw _ (List.mem_of_getElem? (i := 2) rfl))) (mvT hZ (hw _ (List.mem_of_getElem? (i := 3) rfl))) (mvT hZ (hw _ (List.mem_of_getElem? (i := 4) rfl))) (by decide) (backOf (W := 0) (rm_mk1 l Z a0 hw [] s0 s1 cs T8.heap n0 f9_0 f9_7 (own_255 hs0) hcs) hZ (hw _ (List.mem_of_getElem? (i := 4) rfl)) (hw _ (List.mem_of_getElem? (i := 3) rfl)) (by decide) (by decide)) (g := (mkF m 132 #[.val (.int p0), .val (.int p1), .val (.int p2), .val (.int p3), .val (.int p4), .val (.int p5), .val (.int kx), .val (.int (0 : Int32)), .val (.int (1 : Int32)), .val (.int t0), .val (.int t1), .val (.int s0), .val (.int s1), .val (.int (0 : Int32)), .val (.ref b8_0), .unset, .unset, .unset] [(.int s1), (.int s0), (.int (1 : Int32))])) rfl (by rw [hml]; rfl) (argsL := [(.int (1 : Int32)), (.int s0), (.int s1)]) (rest := []) (lenOf own_tailpd0_0 rfl) rfl (by show 2 * 0 + _ ≤ _; exact Nat.le_of_eq rfl) (hb hby at_132) (fun _ _ => ⟨rfl, rfl, (by decide : 6 + 3 ≤ _), (by decide : 12 + 6 ≤ _)⟩)
        dsimp only [Pt.U, Pt.locs, Pt.cells, Pt.slots] at X12 l12 y12 z12 st12 hQ12
        subst l12 y12 z12
        obtain ⟨b12_0, b12_1, k12_0, rfl, N12q, K12, sf12_0, sf12_1, o12_0, o12_1, o12_2, o12_3⟩ := hQ12
        have ne_b8_0_b12_0 : b8_0 ≠ b12_0 := Nat.ne_of_lt (Nat.lt_of_lt_of_le o8_0.lt sf12_0)
        have ne_x8_0_b12_0 : x8_0 ≠ b12_0 := Nat.ne_of_lt (Nat.lt_of_lt_of_le o8_3.lt sf12_0)
        have g_b12_0 : n0 ≤ b12_0 := Nat.le_trans f9_0 sf12_0
        have ne_b8_0_b12_1 : b8_0 ≠ b12_1 := Nat.ne_of_lt (Nat.lt_of_lt_of_le o8_0.lt sf12_1)
        have ne_x8_0_b12_1 : x8_0 ≠ b12_1 := Nat.ne_of_lt (Nat.lt_of_lt_of_le o8_3.lt sf12_1)
        have g_b12_1 : n0 ≤ b12_1 := Nat.le_trans f9_0 sf12_1
        have sf_b12_0 : Safe Z consts_1 T8.vm T8.heap b12_0 := Safe.new sf12_0
        have sf_b12_1 : Safe Z consts_1 T8.vm T8.heap b12_1 := Safe.new sf12_1
        have f13_0 := Nat.le_trans f9_0 K12.1
        have f13_1 := Sta_keep0 f9_1 K12
        have f13_2 := Sta_keep0 f9_2 K12
        have f13_3 := Sta_keep0 f9_3 K12
        have f13_4 := Sta_keep0 f9_4 K12
        have f13_5 := Sta_keep0 f9_5 K12
        have f13_6 := Sta_keep0 f9_6 K12
        have f13_7 := Sta_keep0 f9_7 K12
        have f13_8 := CHv.keep K12 sf0 f9_8
        have f13_9 := Nat.le_trans f9_9 K12.1
        have f13_10 := o8_0.keep K12
        have f13_11 := o8_1.keep K12 nin0
        have f13_12 := o8_2.keep K12 nin0
        have f13_13 := o8_3.keep K12 nin0
        have f13_14 := Safe.keep K12 sf0 f9_8 sf_b12_0
        have f13_15 := Safe.keep K12 sf0 f9_8 sf_b12_1
        have N12 := Fr.app N8 N12q
        refine Wp.back (U' := (T12.setTop (mkF m 135 #[.val (.int p0), .val (.int p1), .val (.int p2), .val (.int p3), .val (.int p4), .val (.int p5), .val (.int kx), .val (.int (0 : Int32)), .val (.int (1 : Int32)), .val (.int t0), .val (.int t1), .val (.int s0), .val (.int s1), .val (.int (0 : Int32)), .val (.ref b8_0), .unset, .unset, .unset] [(.ref b12_0)]))) st12 ?_
        refine Wp.back (U' := (T12.setTop (mkF m 137 #[.val (.int p0), .val (.int p1), .val (.int p2), .val (.int p3), .val (.int p4), .val (.int p5), .val (.int kx), .val (.int (0 : Int32)), .val (.int (1 : Int32)), .val (.int t0), .val (.int t1), .val (.int s0), .val (.int s1), .val (.int (0 : Int32)), .val (.ref b8_0), .val (.ref b12_0), .unset, .unset] []))) (fun t k => XS.astore X12.here hx rfl (hb hby at_135) rfl rfl (l' := #[.val (.int p0), .val (.int p1), .val (.int p2), .val (.int p3), .val (.int p4), .val (.int p5), .val (.int kx), .val (.int (0 : Int32)), .val (.int (1 : Int32)), .val (.int t0), .val (.int t1), .val (.int s0), .val (.int s1), .val (.int (0 : Int32)), .val (.ref b8_0), .val (.ref b12_0), .unset, .unset]) rfl k) ?_
        by_cases hk4 : kx = (4 : Int32)
        · subst hk4
          exact own_t4ne (p0) (p1) (p2) (p3) (p4) (p5) ((0 : Int32)) ((1 : Int32)) (t0) (t1) (s0) (s1) (u0) (u1) (u2) (u3) (u4) (u5) (cs) (b8_0) (b12_0) (x8_0) (b12_1) (k8_0) (k12_0) ((0 : Int32)) ((1 : Int32)) ([]) ([(.int (nar .byte ((nar .char s0)).toInt8.toInt32))]) ((.int 0)) ((.int (0 : Int32))) hx hw hby hml hret hlk hZ hown (own_more X12 (by decide) (by decide)) rfl N12 f13_0 hS8 f13_9 f13_1 f13_2 f13_3 f13_4 f13_5 f13_6 f13_7 f13_10 f13_11 f13_12 f13_13 o12_0 o12_1 o12_2 o12_3 hcs nu0 nu1 nu2 nu3 nu5 ne_b8_0_b12_0 (by decide) (by decide)
        · have hk4' := hk4
          exact own_txr (p0) (p1) (p2) (p3) (p4) (p5) (kx) ((0 : Int32)) ((1 : Int32)) (t0) (t1) (s0) (s1) (u0) (u1) (u2) (u3) (u4) (u5) (cs) (b8_0) (b12_0) hx hw hby hml hret hlk hZ hown (own_more X12 (by decide) (by decide)) rfl N12 f13_0 hS8 f13_9 f13_1 f13_2 f13_3 f13_4 f13_5 f13_6 f13_7 hcs nu0 nu1 nu2 nu3 nu5 hk4
      · refine Wp.back (U' := (T8.setTop (mkF m 132 #[.val (.int p0), .val (.int p1), .val (.int p2), .val (.int p3), .val (.int p4), .val (.int p5), .val (.int kx), .val (.int (0 : Int32)), .val (.int (2 : Int32)), .val (.int t0), .val (.int t1), .val (.int s0), .val (.int s1), .val (.int (0 : Int32)), .val (.ref b8_0), .unset, .unset, .unset] [(.int s1), (.int s0), (.int (2 : Int32))]))) (fun t k => XS.iload X8.here hx rfl (hb hby at_126) rfl (XS.iload X8.here hx rfl (hb hby at_128) rfl (XS.iload X8.here hx rfl (hb hby at_130) rfl k))) ?_
        obtain ⟨_, _, ⟨T14, L14, k14, n14⟩, -, X14, ⟨Lc14, hQ14, l14, y14, z14⟩, st14⟩ := Jvm.LawKit.callS X8 hx (y := (⟨"com/example/query_to_table/querytotable/sql/TokenIsSymbolPinLaw", "mk", "(ICC)Ljava/lang/String;"⟩ : MethodName)) hown (mvT hZ (hw _ (List.mem_of_getElem? (i := 1) rfl))) (mvT hZ (hw _ (List.mem_of_getElem? (i := 2) rfl))) (mvT hZ (hw _ (List.mem_of_getElem? (i := 3) rfl))) (mvT hZ (hw _ (List.mem_of_getElem? (i := 4) rfl))) (by decide) (backOf (W := 0) (rm_mk2 l Z a0 hw [] s0 s1 cs T8.heap n0 f9_0 f9_7 (own_255 hs0) (own_255 hs1) hcs) hZ (hw _ (List.mem_of_getElem? (i := 4) rfl)) (hw _ (List.mem_of_getElem? (i := 3) rfl)) (by decide) (by decide)) (g := (mkF m 132 #[.val (.int p0), .val (.int p1), .val (.int p2), .val (.int p3), .val (.int p4), .val (.int p5), .val (.int kx), .val (.int (0 : Int32)), .val (.int (2 : Int32)), .val (.int t0), .val (.int t1), .val (.int s0), .val (.int s1), .val (.int (0 : Int32)), .val (.ref b8_0), .unset, .unset, .unset] [(.int s1), (.int s0), (.int (2 : Int32))])) rfl (by rw [hml]; rfl) (argsL := [(.int (2 : Int32)), (.int s0), (.int s1)]) (rest := []) (lenOf own_tailpd0_0 rfl) rfl (by show 2 * 0 + _ ≤ _; exact Nat.le_of_eq rfl) (hb hby at_132) (fun _ _ => ⟨rfl, rfl, (by decide : 6 + 3 ≤ _), (by decide : 12 + 8 ≤ _)⟩)
        dsimp only [Pt.U, Pt.locs, Pt.cells, Pt.slots] at X14 l14 y14 z14 st14 hQ14
        subst l14 y14 z14
        obtain ⟨b14_0, b14_1, k14_0, rfl, N14q, K14, sf14_0, sf14_1, o14_0, o14_1, o14_2, o14_3⟩ := hQ14
        have ne_b8_0_b14_0 : b8_0 ≠ b14_0 := Nat.ne_of_lt (Nat.lt_of_lt_of_le o8_0.lt sf14_0)
        have ne_x8_0_b14_0 : x8_0 ≠ b14_0 := Nat.ne_of_lt (Nat.lt_of_lt_of_le o8_3.lt sf14_0)
        have g_b14_0 : n0 ≤ b14_0 := Nat.le_trans f9_0 sf14_0
        have ne_b8_0_b14_1 : b8_0 ≠ b14_1 := Nat.ne_of_lt (Nat.lt_of_lt_of_le o8_0.lt sf14_1)
        have ne_x8_0_b14_1 : x8_0 ≠ b14_1 := Nat.ne_of_lt (Nat.lt_of_lt_of_le o8_3.lt sf14_1)
        have g_b14_1 : n0 ≤ b14_1 := Nat.le_trans f9_0 sf14_1
        have sf_b14_0 : Safe Z consts_1 T8.vm T8.heap b14_0 := Safe.new sf14_0
        have sf_b14_1 : Safe Z consts_1 T8.vm T8.heap b14_1 := Safe.new sf14_1
        have f15_0 := Nat.le_trans f9_0 K14.1
        have f15_1 := Sta_keep0 f9_1 K14
        have f15_2 := Sta_keep0 f9_2 K14
        have f15_3 := Sta_keep0 f9_3 K14
        have f15_4 := Sta_keep0 f9_4 K14
        have f15_5 := Sta_keep0 f9_5 K14
        have f15_6 := Sta_keep0 f9_6 K14
        have f15_7 := Sta_keep0 f9_7 K14
        have f15_8 := CHv.keep K14 sf0 f9_8
        have f15_9 := Nat.le_trans f9_9 K14.1
        have f15_10 := o8_0.keep K14
        have f15_11 := o8_1.keep K14 nin0
        have f15_12 := o8_2.keep K14 nin0
        have f15_13 := o8_3.keep K14 nin0
        have f15_14 := Safe.keep K14 sf0 f9_8 sf_b14_0
        have f15_15 := Safe.keep K14 sf0 f9_8 sf_b14_1
        have N14 := Fr.app N8 N14q
        refine Wp.back (U' := (T14.setTop (mkF m 135 #[.val (.int p0), .val (.int p1), .val (.int p2), .val (.int p3), .val (.int p4), .val (.int p5), .val (.int kx), .val (.int (0 : Int32)), .val (.int (2 : Int32)), .val (.int t0), .val (.int t1), .val (.int s0), .val (.int s1), .val (.int (0 : Int32)), .val (.ref b8_0), .unset, .unset, .unset] [(.ref b14_0)]))) st14 ?_
        refine Wp.back (U' := (T14.setTop (mkF m 137 #[.val (.int p0), .val (.int p1), .val (.int p2), .val (.int p3), .val (.int p4), .val (.int p5), .val (.int kx), .val (.int (0 : Int32)), .val (.int (2 : Int32)), .val (.int t0), .val (.int t1), .val (.int s0), .val (.int s1), .val (.int (0 : Int32)), .val (.ref b8_0), .val (.ref b14_0), .unset, .unset] []))) (fun t k => XS.astore X14.here hx rfl (hb hby at_135) rfl rfl (l' := #[.val (.int p0), .val (.int p1), .val (.int p2), .val (.int p3), .val (.int p4), .val (.int p5), .val (.int kx), .val (.int (0 : Int32)), .val (.int (2 : Int32)), .val (.int t0), .val (.int t1), .val (.int s0), .val (.int s1), .val (.int (0 : Int32)), .val (.ref b8_0), .val (.ref b14_0), .unset, .unset]) rfl k) ?_
        by_cases hk4 : kx = (4 : Int32)
        · subst hk4
          exact own_t4ne (p0) (p1) (p2) (p3) (p4) (p5) ((0 : Int32)) ((2 : Int32)) (t0) (t1) (s0) (s1) (u0) (u1) (u2) (u3) (u4) (u5) (cs) (b8_0) (b14_0) (x8_0) (b14_1) (k8_0) (k14_0) ((0 : Int32)) ((2 : Int32)) ([]) ([(.int (nar .byte ((nar .char s0)).toInt8.toInt32)), (.int (nar .byte ((nar .char s1)).toInt8.toInt32))]) ((.int 0)) ((.int (0 : Int32))) hx hw hby hml hret hlk hZ hown (own_more X14 (by decide) (by decide)) rfl N14 f15_0 hS8 f15_9 f15_1 f15_2 f15_3 f15_4 f15_5 f15_6 f15_7 f15_10 f15_11 f15_12 f15_13 o14_0 o14_1 o14_2 o14_3 hcs nu0 nu1 nu2 nu3 nu5 ne_b8_0_b14_0 (by decide) (by decide)
        · have hk4' := hk4
          exact own_txr (p0) (p1) (p2) (p3) (p4) (p5) (kx) ((0 : Int32)) ((2 : Int32)) (t0) (t1) (s0) (s1) (u0) (u1) (u2) (u3) (u4) (u5) (cs) (b8_0) (b14_0) hx hw hby hml hret hlk hZ hown (own_more X14 (by decide) (by decide)) rfl N14 f15_0 hS8 f15_9 f15_1 f15_2 f15_3 f15_4 f15_5 f15_6 f15_7 hcs nu0 nu1 nu2 nu3 nu5 hk4
    · refine Wp.back (U' := (T0.setTop (mkF m 112 #[.val (.int p0), .val (.int p1), .val (.int p2), .val (.int p3), .val (.int p4), .val (.int p5), .val (.int kx), .val (.int (1 : Int32)), .val (.int ls), .val (.int t0), .val (.int t1), .val (.int s0), .val (.int s1), .val (.int (0 : Int32)), .unset, .unset, .unset, .unset] [(.int t1), (.int t0), (.int (1 : Int32))]))) (fun t k => XS.iload X0.here hx rfl (hb hby at_106) rfl (XS.iload X0.here hx rfl (hb hby at_108) rfl (XS.iload X0.here hx rfl (hb hby at_110) rfl k))) ?_
      obtain ⟨_, _, ⟨T16, L16, k16, n16⟩, -, X16, ⟨Lc16, hQ16, l16, y16, z16⟩, st16⟩ := Jvm.LawKit.callS X0 hx (y := (⟨"com/example/query_to_table/querytotable/sql/TokenIsSymbolPinLaw", "mk", "(ICC)Ljava/lang/String;"⟩ : MethodName)) hown (mvT hZ (hw _ (List.mem_of_getElem? (i := 1) rfl))) (mvT hZ (hw _ (List.mem_of_getElem? (i := 2) rfl))) (mvT hZ (hw _ (List.mem_of_getElem? (i := 3) rfl))) (mvT hZ (hw _ (List.mem_of_getElem? (i := 4) rfl))) (by decide) (backOf (W := 0) (rm_mk1 l Z a0 hw [] t0 t1 cs hA n0 Z0 PC (own_255 ht0) hcs) hZ (hw _ (List.mem_of_getElem? (i := 4) rfl)) (hw _ (List.mem_of_getElem? (i := 3) rfl)) (by decide) (by decide)) (g := (mkF m 112 #[.val (.int p0), .val (.int p1), .val (.int p2), .val (.int p3), .val (.int p4), .val (.int p5), .val (.int kx), .val (.int (1 : Int32)), .val (.int ls), .val (.int t0), .val (.int t1), .val (.int s0), .val (.int s1), .val (.int (0 : Int32)), .unset, .unset, .unset, .unset] [(.int t1), (.int t0), (.int (1 : Int32))])) rfl (by rw [hml]; rfl) (argsL := [(.int (1 : Int32)), (.int t0), (.int t1)]) (rest := []) (lenOf own_tailpd0_0 rfl) rfl (by show 2 * 0 + _ ≤ _; exact Nat.le_of_eq rfl) (hb hby at_112) (fun _ _ => ⟨rfl, e0, (by decide : 0 + 3 ≤ _), (by decide : 0 + 6 ≤ _)⟩)
      dsimp only [Pt.U, Pt.locs, Pt.cells, Pt.slots] at X16 l16 y16 z16 st16 hQ16
      subst l16 y16 z16
      obtain ⟨b16_0, b16_1, k16_0, rfl, N16q, K16, sf16_0, sf16_1, o16_0, o16_1, o16_2, o16_3⟩ := hQ16
      have g_b16_0 : n0 ≤ b16_0 := Nat.le_trans Z0 sf16_0
      have g_b16_1 : n0 ≤ b16_1 := Nat.le_trans Z0 sf16_1
      have sf_b16_0 : Safe Z consts_1 vm0 hA b16_0 := Safe.new sf16_0
      have sf_b16_1 : Safe Z consts_1 vm0 hA b16_1 := Safe.new sf16_1
      have f17_0 := Nat.le_trans Z0 K16.1
      have f17_1 := Sta_keep0 SK0 K16
      have f17_2 := Sta_keep0 SK1 K16
      have f17_3 := Sta_keep0 SK2 K16
      have f17_4 := Sta_keep0 SK3 K16
      have f17_5 := Sta_keep0 SK4 K16
      have f17_6 := Sta_keep0 SK5 K16
      have f17_7 := Sta_keep0 PC K16
      have f17_8 := CHv.keep K16 sf0 hCH
      have f17_9 := Nat.le_trans hk0 K16.1
      have f17_10 := Safe.keep K16 sf0 hCH sf_b16_0
      have f17_11 := Safe.keep K16 sf0 hCH sf_b16_1
      have N16 := Fr.app N0 N16q
      refine Wp.back (U' := (T16.setTop (mkF m 115 #[.val (.int p0), .val (.int p1), .val (.int p2), .val (.int p3), .val (.int p4), .val (.int p5), .val (.int kx), .val (.int (1 : Int32)), .val (.int ls), .val (.int t0), .val (.int t1), .val (.int s0), .val (.int s1), .val (.int (0 : Int32)), .unset, .unset, .unset, .unset] [(.ref b16_0)]))) st16 ?_
      refine Wp.back (U' := (T16.setTop (mkF m 126 #[.val (.int p0), .val (.int p1), .val (.int p2), .val (.int p3), .val (.int p4), .val (.int p5), .val (.int kx), .val (.int (1 : Int32)), .val (.int ls), .val (.int t0), .val (.int t1), .val (.int s0), .val (.int s1), .val (.int (0 : Int32)), .val (.ref b16_0), .unset, .unset, .unset] []))) (fun t k => XS.astore X16.here hx rfl (hb hby at_115) rfl rfl (l' := #[.val (.int p0), .val (.int p1), .val (.int p2), .val (.int p3), .val (.int p4), .val (.int p5), .val (.int kx), .val (.int (1 : Int32)), .val (.int ls), .val (.int t0), .val (.int t1), .val (.int s0), .val (.int s1), .val (.int (0 : Int32)), .val (.ref b16_0), .unset, .unset, .unset]) rfl (XS.iload X16.here hx rfl (hb hby at_117) rfl (XS.ifYes X16.here hx rfl (pc0 := 119) (pc' := 126) rfl (hb hby at_119) rfl ((if0 _ _).trans (teq (by decide)).1) (by decide) (by decide) k))) ?_
      rcases hls with rfl | rfl | rfl
      · refine Wp.back (U' := (T16.setTop (mkF m 132 #[.val (.int p0), .val (.int p1), .val (.int p2), .val (.int p3), .val (.int p4), .val (.int p5), .val (.int kx), .val (.int (1 : Int32)), .val (.int (0 : Int32)), .val (.int t0), .val (.int t1), .val (.int s0), .val (.int s1), .val (.int (0 : Int32)), .val (.ref b16_0), .unset, .unset, .unset] [(.int s1), (.int s0), (.int (0 : Int32))]))) (fun t k => XS.iload X16.here hx rfl (hb hby at_126) rfl (XS.iload X16.here hx rfl (hb hby at_128) rfl (XS.iload X16.here hx rfl (hb hby at_130) rfl k))) ?_
        obtain ⟨_, _, ⟨T18, L18, k18, n18⟩, -, X18, hS18, gr18, ⟨Lc18, hQ18, l18, y18, z18, R18⟩, st18⟩ := callSS X16 hx (y := (⟨"com/example/query_to_table/querytotable/sql/TokenIsSymbolPinLaw", "mk", "(ICC)Ljava/lang/String;"⟩ : MethodName)) hown (mvT hZ (hw _ (List.mem_of_getElem? (i := 1) rfl))) (mvT hZ (hw _ (List.mem_of_getElem? (i := 2) rfl))) (mvT hZ (hw _ (List.mem_of_getElem? (i := 3) rfl))) (mvT hZ (hw _ (List.mem_of_getElem? (i := 4) rfl))) (by decide) (backOfSH (W := 0) (rm_mk0 l Z a0 hw [] s0 s1  T16.heap n0 f17_0 ) hZ (hw _ (List.mem_of_getElem? (i := 4) rfl)) (hw _ (List.mem_of_getElem? (i := 3) rfl)) (by decide) (by decide) hEL f17_8) (g := (mkF m 132 #[.val (.int p0), .val (.int p1), .val (.int p2), .val (.int p3), .val (.int p4), .val (.int p5), .val (.int kx), .val (.int (1 : Int32)), .val (.int (0 : Int32)), .val (.int t0), .val (.int t1), .val (.int s0), .val (.int s1), .val (.int (0 : Int32)), .val (.ref b16_0), .unset, .unset, .unset] [(.int s1), (.int s0), (.int (0 : Int32))])) rfl (by rw [hml]; rfl) (argsL := [(.int (0 : Int32)), (.int s0), (.int s1)]) (rest := []) (lenOf own_tailpd0_0 rfl) rfl (by show 2 * 0 + _ ≤ _; exact Nat.le_of_eq rfl) (hb hby at_132) (fun _ _ => ⟨rfl, rfl, (by decide : 3 + 6 ≤ _), (by decide : 6 + 12 ≤ _)⟩)
        dsimp only [Pt.U, Pt.locs, Pt.cells, Pt.slots] at X18 l18 y18 z18 st18 hQ18 hS18 gr18 R18
        subst l18 y18 z18
        obtain ⟨X18, hS18, hZ, hown⟩ := rebS hS0 f17_9 X18 hS18 gr18 hZ hown
        obtain ⟨b18_0, x18_0, k18_0, rfl, N18q, K18, sf18_0, o18_0, o18_1, o18_2, o18_3⟩ := hQ18
        have ne_b16_0_b18_0 : b16_0 ≠ b18_0 := Nat.ne_of_lt (Nat.lt_of_lt_of_le o16_0.lt sf18_0)
        have ne_b16_1_b18_0 : b16_1 ≠ b18_0 := Nat.ne_of_lt (Nat.lt_of_lt_of_le o16_3.lt sf18_0)
        have g_b18_0 : n0 ≤ b18_0 := Nat.le_trans f17_0 sf18_0
        have f19_0 := Nat.le_trans f17_0 K18.1
        have f19_1 := Sta_keep0 f17_1 K18
        have f19_2 := Sta_keep0 f17_2 K18
        have f19_3 := Sta_keep0 f17_3 K18
        have f19_4 := Sta_keep0 f17_4 K18
        have f19_5 := Sta_keep0 f17_5 K18
        have f19_6 := Sta_keep0 f17_6 K18
        have f19_7 := Sta_keep0 f17_7 K18
        have f19_8 := R18.1
        have f19_9 := Nat.le_refl T18.heap.size
        have f19_10 := CHr.safe R18 o16_0.lt f17_10
        have f19_11 := CHr.safe R18 o16_3.lt f17_11
        have f19_12 := o16_0.keep K18
        have f19_13 := o16_1.keep K18 nin0
        have f19_14 := o16_2.keep K18 nin0
        have f19_15 := o16_3.keep K18 nin0
        have N18 := Fr.app N16 N18q
        refine Wp.back (U' := (T18.setTop (mkF m 135 #[.val (.int p0), .val (.int p1), .val (.int p2), .val (.int p3), .val (.int p4), .val (.int p5), .val (.int kx), .val (.int (1 : Int32)), .val (.int (0 : Int32)), .val (.int t0), .val (.int t1), .val (.int s0), .val (.int s1), .val (.int (0 : Int32)), .val (.ref b16_0), .unset, .unset, .unset] [(.ref b18_0)]))) (fun t k => st18.trans k) ?_
        refine Wp.back (U' := (T18.setTop (mkF m 137 #[.val (.int p0), .val (.int p1), .val (.int p2), .val (.int p3), .val (.int p4), .val (.int p5), .val (.int kx), .val (.int (1 : Int32)), .val (.int (0 : Int32)), .val (.int t0), .val (.int t1), .val (.int s0), .val (.int s1), .val (.int (0 : Int32)), .val (.ref b16_0), .val (.ref b18_0), .unset, .unset] []))) (fun t k => XS.astore X18.here hx rfl (hb hby at_135) rfl rfl (l' := #[.val (.int p0), .val (.int p1), .val (.int p2), .val (.int p3), .val (.int p4), .val (.int p5), .val (.int kx), .val (.int (1 : Int32)), .val (.int (0 : Int32)), .val (.int t0), .val (.int t1), .val (.int s0), .val (.int s1), .val (.int (0 : Int32)), .val (.ref b16_0), .val (.ref b18_0), .unset, .unset]) rfl k) ?_
        by_cases hk4 : kx = (4 : Int32)
        · subst hk4
          exact own_t4ne (p0) (p1) (p2) (p3) (p4) (p5) ((1 : Int32)) ((0 : Int32)) (t0) (t1) (s0) (s1) (u0) (u1) (u2) (u3) (u4) (u5) (cs) (b16_0) (b18_0) (b16_1) (x18_0) (k16_0) (k18_0) ((1 : Int32)) ((0 : Int32)) ([(.int (nar .byte ((nar .char t0)).toInt8.toInt32))]) ([]) ((.int (0 : Int32))) ((.int 0)) hx hw hby hml hret hlk hZ hown (own_more X18 (by decide) (by decide)) rfl N18 f19_0 hS18 f19_9 f19_1 f19_2 f19_3 f19_4 f19_5 f19_6 f19_7 f19_12 f19_13 f19_14 f19_15 o18_0 o18_1 o18_2 o18_3 hcs nu0 nu1 nu2 nu3 nu5 ne_b16_0_b18_0 (by decide) (by decide)
        · have hk4' := hk4
          exact own_txr (p0) (p1) (p2) (p3) (p4) (p5) (kx) ((1 : Int32)) ((0 : Int32)) (t0) (t1) (s0) (s1) (u0) (u1) (u2) (u3) (u4) (u5) (cs) (b16_0) (b18_0) hx hw hby hml hret hlk hZ hown (own_more X18 (by decide) (by decide)) rfl N18 f19_0 hS18 f19_9 f19_1 f19_2 f19_3 f19_4 f19_5 f19_6 f19_7 hcs nu0 nu1 nu2 nu3 nu5 hk4
      · refine Wp.back (U' := (T16.setTop (mkF m 132 #[.val (.int p0), .val (.int p1), .val (.int p2), .val (.int p3), .val (.int p4), .val (.int p5), .val (.int kx), .val (.int (1 : Int32)), .val (.int (1 : Int32)), .val (.int t0), .val (.int t1), .val (.int s0), .val (.int s1), .val (.int (0 : Int32)), .val (.ref b16_0), .unset, .unset, .unset] [(.int s1), (.int s0), (.int (1 : Int32))]))) (fun t k => XS.iload X16.here hx rfl (hb hby at_126) rfl (XS.iload X16.here hx rfl (hb hby at_128) rfl (XS.iload X16.here hx rfl (hb hby at_130) rfl k))) ?_
        obtain ⟨_, _, ⟨T20, L20, k20, n20⟩, -, X20, ⟨Lc20, hQ20, l20, y20, z20⟩, st20⟩ := Jvm.LawKit.callS X16 hx (y := (⟨"com/example/query_to_table/querytotable/sql/TokenIsSymbolPinLaw", "mk", "(ICC)Ljava/lang/String;"⟩ : MethodName)) hown (mvT hZ (hw _ (List.mem_of_getElem? (i := 1) rfl))) (mvT hZ (hw _ (List.mem_of_getElem? (i := 2) rfl))) (mvT hZ (hw _ (List.mem_of_getElem? (i := 3) rfl))) (mvT hZ (hw _ (List.mem_of_getElem? (i := 4) rfl))) (by decide) (backOf (W := 0) (rm_mk1 l Z a0 hw [] s0 s1 cs T16.heap n0 f17_0 f17_7 (own_255 hs0) hcs) hZ (hw _ (List.mem_of_getElem? (i := 4) rfl)) (hw _ (List.mem_of_getElem? (i := 3) rfl)) (by decide) (by decide)) (g := (mkF m 132 #[.val (.int p0), .val (.int p1), .val (.int p2), .val (.int p3), .val (.int p4), .val (.int p5), .val (.int kx), .val (.int (1 : Int32)), .val (.int (1 : Int32)), .val (.int t0), .val (.int t1), .val (.int s0), .val (.int s1), .val (.int (0 : Int32)), .val (.ref b16_0), .unset, .unset, .unset] [(.int s1), (.int s0), (.int (1 : Int32))])) rfl (by rw [hml]; rfl) (argsL := [(.int (1 : Int32)), (.int s0), (.int s1)]) (rest := []) (lenOf own_tailpd0_0 rfl) rfl (by show 2 * 0 + _ ≤ _; exact Nat.le_of_eq rfl) (hb hby at_132) (fun _ _ => ⟨rfl, rfl, (by decide : 3 + 3 ≤ _), (by decide : 6 + 6 ≤ _)⟩)
        dsimp only [Pt.U, Pt.locs, Pt.cells, Pt.slots] at X20 l20 y20 z20 st20 hQ20
        subst l20 y20 z20
        obtain ⟨b20_0, b20_1, k20_0, rfl, N20q, K20, sf20_0, sf20_1, o20_0, o20_1, o20_2, o20_3⟩ := hQ20
        have ne_b16_0_b20_0 : b16_0 ≠ b20_0 := Nat.ne_of_lt (Nat.lt_of_lt_of_le o16_0.lt sf20_0)
        have ne_b16_1_b20_0 : b16_1 ≠ b20_0 := Nat.ne_of_lt (Nat.lt_of_lt_of_le o16_3.lt sf20_0)
        have g_b20_0 : n0 ≤ b20_0 := Nat.le_trans f17_0 sf20_0
        have ne_b16_0_b20_1 : b16_0 ≠ b20_1 := Nat.ne_of_lt (Nat.lt_of_lt_of_le o16_0.lt sf20_1)
        have ne_b16_1_b20_1 : b16_1 ≠ b20_1 := Nat.ne_of_lt (Nat.lt_of_lt_of_le o16_3.lt sf20_1)
        have g_b20_1 : n0 ≤ b20_1 := Nat.le_trans f17_0 sf20_1
        have sf_b20_0 : Safe Z consts_1 vm0 T16.heap b20_0 := Safe.new sf20_0
        have sf_b20_1 : Safe Z consts_1 vm0 T16.heap b20_1 := Safe.new sf20_1
        have f21_0 := Nat.le_trans f17_0 K20.1
        have f21_1 := Sta_keep0 f17_1 K20
        have f21_2 := Sta_keep0 f17_2 K20
        have f21_3 := Sta_keep0 f17_3 K20
        have f21_4 := Sta_keep0 f17_4 K20
        have f21_5 := Sta_keep0 f17_5 K20
        have f21_6 := Sta_keep0 f17_6 K20
        have f21_7 := Sta_keep0 f17_7 K20
        have f21_8 := CHv.keep K20 sf0 f17_8
        have f21_9 := Nat.le_trans f17_9 K20.1
        have f21_10 := Safe.keep K20 sf0 f17_8 f17_10
        have f21_11 := Safe.keep K20 sf0 f17_8 f17_11
        have f21_12 := o16_0.keep K20
        have f21_13 := o16_1.keep K20 nin0
        have f21_14 := o16_2.keep K20 nin0
        have f21_15 := o16_3.keep K20 nin0
        have f21_16 := Safe.keep K20 sf0 f17_8 sf_b20_0
        have f21_17 := Safe.keep K20 sf0 f17_8 sf_b20_1
        have N20 := Fr.app N16 N20q
        refine Wp.back (U' := (T20.setTop (mkF m 135 #[.val (.int p0), .val (.int p1), .val (.int p2), .val (.int p3), .val (.int p4), .val (.int p5), .val (.int kx), .val (.int (1 : Int32)), .val (.int (1 : Int32)), .val (.int t0), .val (.int t1), .val (.int s0), .val (.int s1), .val (.int (0 : Int32)), .val (.ref b16_0), .unset, .unset, .unset] [(.ref b20_0)]))) st20 ?_
        refine Wp.back (U' := (T20.setTop (mkF m 137 #[.val (.int p0), .val (.int p1), .val (.int p2), .val (.int p3), .val (.int p4), .val (.int p5), .val (.int kx), .val (.int (1 : Int32)), .val (.int (1 : Int32)), .val (.int t0), .val (.int t1), .val (.int s0), .val (.int s1), .val (.int (0 : Int32)), .val (.ref b16_0), .val (.ref b20_0), .unset, .unset] []))) (fun t k => XS.astore X20.here hx rfl (hb hby at_135) rfl rfl (l' := #[.val (.int p0), .val (.int p1), .val (.int p2), .val (.int p3), .val (.int p4), .val (.int p5), .val (.int kx), .val (.int (1 : Int32)), .val (.int (1 : Int32)), .val (.int t0), .val (.int t1), .val (.int s0), .val (.int s1), .val (.int (0 : Int32)), .val (.ref b16_0), .val (.ref b20_0), .unset, .unset]) rfl k) ?_
        by_cases hk4 : kx = (4 : Int32)
        · subst hk4
          exact own_t4_1 (p0) (p1) (p2) (p3) (p4) (p5) (t0) (t1) (s0) (s1) (u0) (u1) (u2) (u3) (u4) (u5) (cs) (b16_0) (b20_0) (b16_1) (b20_1) (k16_0) (k20_0) hx hw hby hml hret hlk hZ hown (own_more X20 (by decide) (by decide)) rfl N20 f21_0 hS0 f21_9 f21_1 f21_2 f21_3 f21_4 f21_5 f21_6 f21_7 f21_12 f21_13 f21_14 f21_15 o20_0 o20_1 o20_2 o20_3 hcs nu0 nu1 nu2 nu3 nu5 ne_b16_0_b20_0 ht0 ht1 hs0 hs1
        · have hk4' := hk4
          exact own_txr (p0) (p1) (p2) (p3) (p4) (p5) (kx) ((1 : Int32)) ((1 : Int32)) (t0) (t1) (s0) (s1) (u0) (u1) (u2) (u3) (u4) (u5) (cs) (b16_0) (b20_0) hx hw hby hml hret hlk hZ hown (own_more X20 (by decide) (by decide)) rfl N20 f21_0 hS0 f21_9 f21_1 f21_2 f21_3 f21_4 f21_5 f21_6 f21_7 hcs nu0 nu1 nu2 nu3 nu5 hk4
      · refine Wp.back (U' := (T16.setTop (mkF m 132 #[.val (.int p0), .val (.int p1), .val (.int p2), .val (.int p3), .val (.int p4), .val (.int p5), .val (.int kx), .val (.int (1 : Int32)), .val (.int (2 : Int32)), .val (.int t0), .val (.int t1), .val (.int s0), .val (.int s1), .val (.int (0 : Int32)), .val (.ref b16_0), .unset, .unset, .unset] [(.int s1), (.int s0), (.int (2 : Int32))]))) (fun t k => XS.iload X16.here hx rfl (hb hby at_126) rfl (XS.iload X16.here hx rfl (hb hby at_128) rfl (XS.iload X16.here hx rfl (hb hby at_130) rfl k))) ?_
        obtain ⟨_, _, ⟨T22, L22, k22, n22⟩, -, X22, ⟨Lc22, hQ22, l22, y22, z22⟩, st22⟩ := Jvm.LawKit.callS X16 hx (y := (⟨"com/example/query_to_table/querytotable/sql/TokenIsSymbolPinLaw", "mk", "(ICC)Ljava/lang/String;"⟩ : MethodName)) hown (mvT hZ (hw _ (List.mem_of_getElem? (i := 1) rfl))) (mvT hZ (hw _ (List.mem_of_getElem? (i := 2) rfl))) (mvT hZ (hw _ (List.mem_of_getElem? (i := 3) rfl))) (mvT hZ (hw _ (List.mem_of_getElem? (i := 4) rfl))) (by decide) (backOf (W := 0) (rm_mk2 l Z a0 hw [] s0 s1 cs T16.heap n0 f17_0 f17_7 (own_255 hs0) (own_255 hs1) hcs) hZ (hw _ (List.mem_of_getElem? (i := 4) rfl)) (hw _ (List.mem_of_getElem? (i := 3) rfl)) (by decide) (by decide)) (g := (mkF m 132 #[.val (.int p0), .val (.int p1), .val (.int p2), .val (.int p3), .val (.int p4), .val (.int p5), .val (.int kx), .val (.int (1 : Int32)), .val (.int (2 : Int32)), .val (.int t0), .val (.int t1), .val (.int s0), .val (.int s1), .val (.int (0 : Int32)), .val (.ref b16_0), .unset, .unset, .unset] [(.int s1), (.int s0), (.int (2 : Int32))])) rfl (by rw [hml]; rfl) (argsL := [(.int (2 : Int32)), (.int s0), (.int s1)]) (rest := []) (lenOf own_tailpd0_0 rfl) rfl (by show 2 * 0 + _ ≤ _; exact Nat.le_of_eq rfl) (hb hby at_132) (fun _ _ => ⟨rfl, rfl, (by decide : 3 + 3 ≤ _), (by decide : 6 + 8 ≤ _)⟩)
        dsimp only [Pt.U, Pt.locs, Pt.cells, Pt.slots] at X22 l22 y22 z22 st22 hQ22
        subst l22 y22 z22
        obtain ⟨b22_0, b22_1, k22_0, rfl, N22q, K22, sf22_0, sf22_1, o22_0, o22_1, o22_2, o22_3⟩ := hQ22
        have ne_b16_0_b22_0 : b16_0 ≠ b22_0 := Nat.ne_of_lt (Nat.lt_of_lt_of_le o16_0.lt sf22_0)
        have ne_b16_1_b22_0 : b16_1 ≠ b22_0 := Nat.ne_of_lt (Nat.lt_of_lt_of_le o16_3.lt sf22_0)
        have g_b22_0 : n0 ≤ b22_0 := Nat.le_trans f17_0 sf22_0
        have ne_b16_0_b22_1 : b16_0 ≠ b22_1 := Nat.ne_of_lt (Nat.lt_of_lt_of_le o16_0.lt sf22_1)
        have ne_b16_1_b22_1 : b16_1 ≠ b22_1 := Nat.ne_of_lt (Nat.lt_of_lt_of_le o16_3.lt sf22_1)
        have g_b22_1 : n0 ≤ b22_1 := Nat.le_trans f17_0 sf22_1
        have sf_b22_0 : Safe Z consts_1 vm0 T16.heap b22_0 := Safe.new sf22_0
        have sf_b22_1 : Safe Z consts_1 vm0 T16.heap b22_1 := Safe.new sf22_1
        have f23_0 := Nat.le_trans f17_0 K22.1
        have f23_1 := Sta_keep0 f17_1 K22
        have f23_2 := Sta_keep0 f17_2 K22
        have f23_3 := Sta_keep0 f17_3 K22
        have f23_4 := Sta_keep0 f17_4 K22
        have f23_5 := Sta_keep0 f17_5 K22
        have f23_6 := Sta_keep0 f17_6 K22
        have f23_7 := Sta_keep0 f17_7 K22
        have f23_8 := CHv.keep K22 sf0 f17_8
        have f23_9 := Nat.le_trans f17_9 K22.1
        have f23_10 := Safe.keep K22 sf0 f17_8 f17_10
        have f23_11 := Safe.keep K22 sf0 f17_8 f17_11
        have f23_12 := o16_0.keep K22
        have f23_13 := o16_1.keep K22 nin0
        have f23_14 := o16_2.keep K22 nin0
        have f23_15 := o16_3.keep K22 nin0
        have f23_16 := Safe.keep K22 sf0 f17_8 sf_b22_0
        have f23_17 := Safe.keep K22 sf0 f17_8 sf_b22_1
        have N22 := Fr.app N16 N22q
        refine Wp.back (U' := (T22.setTop (mkF m 135 #[.val (.int p0), .val (.int p1), .val (.int p2), .val (.int p3), .val (.int p4), .val (.int p5), .val (.int kx), .val (.int (1 : Int32)), .val (.int (2 : Int32)), .val (.int t0), .val (.int t1), .val (.int s0), .val (.int s1), .val (.int (0 : Int32)), .val (.ref b16_0), .unset, .unset, .unset] [(.ref b22_0)]))) st22 ?_
        refine Wp.back (U' := (T22.setTop (mkF m 137 #[.val (.int p0), .val (.int p1), .val (.int p2), .val (.int p3), .val (.int p4), .val (.int p5), .val (.int kx), .val (.int (1 : Int32)), .val (.int (2 : Int32)), .val (.int t0), .val (.int t1), .val (.int s0), .val (.int s1), .val (.int (0 : Int32)), .val (.ref b16_0), .val (.ref b22_0), .unset, .unset] []))) (fun t k => XS.astore X22.here hx rfl (hb hby at_135) rfl rfl (l' := #[.val (.int p0), .val (.int p1), .val (.int p2), .val (.int p3), .val (.int p4), .val (.int p5), .val (.int kx), .val (.int (1 : Int32)), .val (.int (2 : Int32)), .val (.int t0), .val (.int t1), .val (.int s0), .val (.int s1), .val (.int (0 : Int32)), .val (.ref b16_0), .val (.ref b22_0), .unset, .unset]) rfl k) ?_
        by_cases hk4 : kx = (4 : Int32)
        · subst hk4
          exact own_t4ne (p0) (p1) (p2) (p3) (p4) (p5) ((1 : Int32)) ((2 : Int32)) (t0) (t1) (s0) (s1) (u0) (u1) (u2) (u3) (u4) (u5) (cs) (b16_0) (b22_0) (b16_1) (b22_1) (k16_0) (k22_0) ((1 : Int32)) ((2 : Int32)) ([(.int (nar .byte ((nar .char t0)).toInt8.toInt32))]) ([(.int (nar .byte ((nar .char s0)).toInt8.toInt32)), (.int (nar .byte ((nar .char s1)).toInt8.toInt32))]) ((.int (0 : Int32))) ((.int (0 : Int32))) hx hw hby hml hret hlk hZ hown (own_more X22 (by decide) (by decide)) rfl N22 f23_0 hS0 f23_9 f23_1 f23_2 f23_3 f23_4 f23_5 f23_6 f23_7 f23_12 f23_13 f23_14 f23_15 o22_0 o22_1 o22_2 o22_3 hcs nu0 nu1 nu2 nu3 nu5 ne_b16_0_b22_0 (by decide) (by decide)
        · have hk4' := hk4
          exact own_txr (p0) (p1) (p2) (p3) (p4) (p5) (kx) ((1 : Int32)) ((2 : Int32)) (t0) (t1) (s0) (s1) (u0) (u1) (u2) (u3) (u4) (u5) (cs) (b16_0) (b22_0) hx hw hby hml hret hlk hZ hown (own_more X22 (by decide) (by decide)) rfl N22 f23_0 hS0 f23_9 f23_1 f23_2 f23_3 f23_4 f23_5 f23_6 f23_7 hcs nu0 nu1 nu2 nu3 nu5 hk4
    · refine Wp.back (U' := (T0.setTop (mkF m 112 #[.val (.int p0), .val (.int p1), .val (.int p2), .val (.int p3), .val (.int p4), .val (.int p5), .val (.int kx), .val (.int (2 : Int32)), .val (.int ls), .val (.int t0), .val (.int t1), .val (.int s0), .val (.int s1), .val (.int (0 : Int32)), .unset, .unset, .unset, .unset] [(.int t1), (.int t0), (.int (2 : Int32))]))) (fun t k => XS.iload X0.here hx rfl (hb hby at_106) rfl (XS.iload X0.here hx rfl (hb hby at_108) rfl (XS.iload X0.here hx rfl (hb hby at_110) rfl k))) ?_
      obtain ⟨_, _, ⟨T24, L24, k24, n24⟩, -, X24, ⟨Lc24, hQ24, l24, y24, z24⟩, st24⟩ := Jvm.LawKit.callS X0 hx (y := (⟨"com/example/query_to_table/querytotable/sql/TokenIsSymbolPinLaw", "mk", "(ICC)Ljava/lang/String;"⟩ : MethodName)) hown (mvT hZ (hw _ (List.mem_of_getElem? (i := 1) rfl))) (mvT hZ (hw _ (List.mem_of_getElem? (i := 2) rfl))) (mvT hZ (hw _ (List.mem_of_getElem? (i := 3) rfl))) (mvT hZ (hw _ (List.mem_of_getElem? (i := 4) rfl))) (by decide) (backOf (W := 0) (rm_mk2 l Z a0 hw [] t0 t1 cs hA n0 Z0 PC (own_255 ht0) (own_255 ht1) hcs) hZ (hw _ (List.mem_of_getElem? (i := 4) rfl)) (hw _ (List.mem_of_getElem? (i := 3) rfl)) (by decide) (by decide)) (g := (mkF m 112 #[.val (.int p0), .val (.int p1), .val (.int p2), .val (.int p3), .val (.int p4), .val (.int p5), .val (.int kx), .val (.int (2 : Int32)), .val (.int ls), .val (.int t0), .val (.int t1), .val (.int s0), .val (.int s1), .val (.int (0 : Int32)), .unset, .unset, .unset, .unset] [(.int t1), (.int t0), (.int (2 : Int32))])) rfl (by rw [hml]; rfl) (argsL := [(.int (2 : Int32)), (.int t0), (.int t1)]) (rest := []) (lenOf own_tailpd0_0 rfl) rfl (by show 2 * 0 + _ ≤ _; exact Nat.le_of_eq rfl) (hb hby at_112) (fun _ _ => ⟨rfl, e0, (by decide : 0 + 3 ≤ _), (by decide : 0 + 8 ≤ _)⟩)
      dsimp only [Pt.U, Pt.locs, Pt.cells, Pt.slots] at X24 l24 y24 z24 st24 hQ24
      subst l24 y24 z24
      obtain ⟨b24_0, b24_1, k24_0, rfl, N24q, K24, sf24_0, sf24_1, o24_0, o24_1, o24_2, o24_3⟩ := hQ24
      have g_b24_0 : n0 ≤ b24_0 := Nat.le_trans Z0 sf24_0
      have g_b24_1 : n0 ≤ b24_1 := Nat.le_trans Z0 sf24_1
      have sf_b24_0 : Safe Z consts_1 vm0 hA b24_0 := Safe.new sf24_0
      have sf_b24_1 : Safe Z consts_1 vm0 hA b24_1 := Safe.new sf24_1
      have f25_0 := Nat.le_trans Z0 K24.1
      have f25_1 := Sta_keep0 SK0 K24
      have f25_2 := Sta_keep0 SK1 K24
      have f25_3 := Sta_keep0 SK2 K24
      have f25_4 := Sta_keep0 SK3 K24
      have f25_5 := Sta_keep0 SK4 K24
      have f25_6 := Sta_keep0 SK5 K24
      have f25_7 := Sta_keep0 PC K24
      have f25_8 := CHv.keep K24 sf0 hCH
      have f25_9 := Nat.le_trans hk0 K24.1
      have f25_10 := Safe.keep K24 sf0 hCH sf_b24_0
      have f25_11 := Safe.keep K24 sf0 hCH sf_b24_1
      have N24 := Fr.app N0 N24q
      refine Wp.back (U' := (T24.setTop (mkF m 115 #[.val (.int p0), .val (.int p1), .val (.int p2), .val (.int p3), .val (.int p4), .val (.int p5), .val (.int kx), .val (.int (2 : Int32)), .val (.int ls), .val (.int t0), .val (.int t1), .val (.int s0), .val (.int s1), .val (.int (0 : Int32)), .unset, .unset, .unset, .unset] [(.ref b24_0)]))) st24 ?_
      refine Wp.back (U' := (T24.setTop (mkF m 126 #[.val (.int p0), .val (.int p1), .val (.int p2), .val (.int p3), .val (.int p4), .val (.int p5), .val (.int kx), .val (.int (2 : Int32)), .val (.int ls), .val (.int t0), .val (.int t1), .val (.int s0), .val (.int s1), .val (.int (0 : Int32)), .val (.ref b24_0), .unset, .unset, .unset] []))) (fun t k => XS.astore X24.here hx rfl (hb hby at_115) rfl rfl (l' := #[.val (.int p0), .val (.int p1), .val (.int p2), .val (.int p3), .val (.int p4), .val (.int p5), .val (.int kx), .val (.int (2 : Int32)), .val (.int ls), .val (.int t0), .val (.int t1), .val (.int s0), .val (.int s1), .val (.int (0 : Int32)), .val (.ref b24_0), .unset, .unset, .unset]) rfl (XS.iload X24.here hx rfl (hb hby at_117) rfl (XS.ifYes X24.here hx rfl (pc0 := 119) (pc' := 126) rfl (hb hby at_119) rfl ((if0 _ _).trans (teq (by decide)).1) (by decide) (by decide) k))) ?_
      rcases hls with rfl | rfl | rfl
      · refine Wp.back (U' := (T24.setTop (mkF m 132 #[.val (.int p0), .val (.int p1), .val (.int p2), .val (.int p3), .val (.int p4), .val (.int p5), .val (.int kx), .val (.int (2 : Int32)), .val (.int (0 : Int32)), .val (.int t0), .val (.int t1), .val (.int s0), .val (.int s1), .val (.int (0 : Int32)), .val (.ref b24_0), .unset, .unset, .unset] [(.int s1), (.int s0), (.int (0 : Int32))]))) (fun t k => XS.iload X24.here hx rfl (hb hby at_126) rfl (XS.iload X24.here hx rfl (hb hby at_128) rfl (XS.iload X24.here hx rfl (hb hby at_130) rfl k))) ?_
        obtain ⟨_, _, ⟨T26, L26, k26, n26⟩, -, X26, hS26, gr26, ⟨Lc26, hQ26, l26, y26, z26, R26⟩, st26⟩ := callSS X24 hx (y := (⟨"com/example/query_to_table/querytotable/sql/TokenIsSymbolPinLaw", "mk", "(ICC)Ljava/lang/String;"⟩ : MethodName)) hown (mvT hZ (hw _ (List.mem_of_getElem? (i := 1) rfl))) (mvT hZ (hw _ (List.mem_of_getElem? (i := 2) rfl))) (mvT hZ (hw _ (List.mem_of_getElem? (i := 3) rfl))) (mvT hZ (hw _ (List.mem_of_getElem? (i := 4) rfl))) (by decide) (backOfSH (W := 0) (rm_mk0 l Z a0 hw [] s0 s1  T24.heap n0 f25_0 ) hZ (hw _ (List.mem_of_getElem? (i := 4) rfl)) (hw _ (List.mem_of_getElem? (i := 3) rfl)) (by decide) (by decide) hEL f25_8) (g := (mkF m 132 #[.val (.int p0), .val (.int p1), .val (.int p2), .val (.int p3), .val (.int p4), .val (.int p5), .val (.int kx), .val (.int (2 : Int32)), .val (.int (0 : Int32)), .val (.int t0), .val (.int t1), .val (.int s0), .val (.int s1), .val (.int (0 : Int32)), .val (.ref b24_0), .unset, .unset, .unset] [(.int s1), (.int s0), (.int (0 : Int32))])) rfl (by rw [hml]; rfl) (argsL := [(.int (0 : Int32)), (.int s0), (.int s1)]) (rest := []) (lenOf own_tailpd0_0 rfl) rfl (by show 2 * 0 + _ ≤ _; exact Nat.le_of_eq rfl) (hb hby at_132) (fun _ _ => ⟨rfl, rfl, (by decide : 3 + 6 ≤ _), (by decide : 8 + 12 ≤ _)⟩)
        dsimp only [Pt.U, Pt.locs, Pt.cells, Pt.slots] at X26 l26 y26 z26 st26 hQ26 hS26 gr26 R26
        subst l26 y26 z26
        obtain ⟨X26, hS26, hZ, hown⟩ := rebS hS0 f25_9 X26 hS26 gr26 hZ hown
        obtain ⟨b26_0, x26_0, k26_0, rfl, N26q, K26, sf26_0, o26_0, o26_1, o26_2, o26_3⟩ := hQ26
        have ne_b24_0_b26_0 : b24_0 ≠ b26_0 := Nat.ne_of_lt (Nat.lt_of_lt_of_le o24_0.lt sf26_0)
        have ne_b24_1_b26_0 : b24_1 ≠ b26_0 := Nat.ne_of_lt (Nat.lt_of_lt_of_le o24_3.lt sf26_0)
        have g_b26_0 : n0 ≤ b26_0 := Nat.le_trans f25_0 sf26_0
        have f27_0 := Nat.le_trans f25_0 K26.1
        have f27_1 := Sta_keep0 f25_1 K26
        have f27_2 := Sta_keep0 f25_2 K26
        have f27_3 := Sta_keep0 f25_3 K26
        have f27_4 := Sta_keep0 f25_4 K26
        have f27_5 := Sta_keep0 f25_5 K26
        have f27_6 := Sta_keep0 f25_6 K26
        have f27_7 := Sta_keep0 f25_7 K26
        have f27_8 := R26.1
        have f27_9 := Nat.le_refl T26.heap.size
        have f27_10 := CHr.safe R26 o24_0.lt f25_10
        have f27_11 := CHr.safe R26 o24_3.lt f25_11
        have f27_12 := o24_0.keep K26
        have f27_13 := o24_1.keep K26 nin0
        have f27_14 := o24_2.keep K26 nin0
        have f27_15 := o24_3.keep K26 nin0
        have N26 := Fr.app N24 N26q
        refine Wp.back (U' := (T26.setTop (mkF m 135 #[.val (.int p0), .val (.int p1), .val (.int p2), .val (.int p3), .val (.int p4), .val (.int p5), .val (.int kx), .val (.int (2 : Int32)), .val (.int (0 : Int32)), .val (.int t0), .val (.int t1), .val (.int s0), .val (.int s1), .val (.int (0 : Int32)), .val (.ref b24_0), .unset, .unset, .unset] [(.ref b26_0)]))) (fun t k => st26.trans k) ?_
        refine Wp.back (U' := (T26.setTop (mkF m 137 #[.val (.int p0), .val (.int p1), .val (.int p2), .val (.int p3), .val (.int p4), .val (.int p5), .val (.int kx), .val (.int (2 : Int32)), .val (.int (0 : Int32)), .val (.int t0), .val (.int t1), .val (.int s0), .val (.int s1), .val (.int (0 : Int32)), .val (.ref b24_0), .val (.ref b26_0), .unset, .unset] []))) (fun t k => XS.astore X26.here hx rfl (hb hby at_135) rfl rfl (l' := #[.val (.int p0), .val (.int p1), .val (.int p2), .val (.int p3), .val (.int p4), .val (.int p5), .val (.int kx), .val (.int (2 : Int32)), .val (.int (0 : Int32)), .val (.int t0), .val (.int t1), .val (.int s0), .val (.int s1), .val (.int (0 : Int32)), .val (.ref b24_0), .val (.ref b26_0), .unset, .unset]) rfl k) ?_
        by_cases hk4 : kx = (4 : Int32)
        · subst hk4
          exact own_t4ne (p0) (p1) (p2) (p3) (p4) (p5) ((2 : Int32)) ((0 : Int32)) (t0) (t1) (s0) (s1) (u0) (u1) (u2) (u3) (u4) (u5) (cs) (b24_0) (b26_0) (b24_1) (x26_0) (k24_0) (k26_0) ((2 : Int32)) ((0 : Int32)) ([(.int (nar .byte ((nar .char t0)).toInt8.toInt32)), (.int (nar .byte ((nar .char t1)).toInt8.toInt32))]) ([]) ((.int (0 : Int32))) ((.int 0)) hx hw hby hml hret hlk hZ hown (own_more X26 (by decide) (by decide)) rfl N26 f27_0 hS26 f27_9 f27_1 f27_2 f27_3 f27_4 f27_5 f27_6 f27_7 f27_12 f27_13 f27_14 f27_15 o26_0 o26_1 o26_2 o26_3 hcs nu0 nu1 nu2 nu3 nu5 ne_b24_0_b26_0 (by decide) (by decide)
        · have hk4' := hk4
          exact own_txr (p0) (p1) (p2) (p3) (p4) (p5) (kx) ((2 : Int32)) ((0 : Int32)) (t0) (t1) (s0) (s1) (u0) (u1) (u2) (u3) (u4) (u5) (cs) (b24_0) (b26_0) hx hw hby hml hret hlk hZ hown (own_more X26 (by decide) (by decide)) rfl N26 f27_0 hS26 f27_9 f27_1 f27_2 f27_3 f27_4 f27_5 f27_6 f27_7 hcs nu0 nu1 nu2 nu3 nu5 hk4
      · refine Wp.back (U' := (T24.setTop (mkF m 132 #[.val (.int p0), .val (.int p1), .val (.int p2), .val (.int p3), .val (.int p4), .val (.int p5), .val (.int kx), .val (.int (2 : Int32)), .val (.int (1 : Int32)), .val (.int t0), .val (.int t1), .val (.int s0), .val (.int s1), .val (.int (0 : Int32)), .val (.ref b24_0), .unset, .unset, .unset] [(.int s1), (.int s0), (.int (1 : Int32))]))) (fun t k => XS.iload X24.here hx rfl (hb hby at_126) rfl (XS.iload X24.here hx rfl (hb hby at_128) rfl (XS.iload X24.here hx rfl (hb hby at_130) rfl k))) ?_
        obtain ⟨_, _, ⟨T28, L28, k28, n28⟩, -, X28, ⟨Lc28, hQ28, l28, y28, z28⟩, st28⟩ := Jvm.LawKit.callS X24 hx (y := (⟨"com/example/query_to_table/querytotable/sql/TokenIsSymbolPinLaw", "mk", "(ICC)Ljava/lang/String;"⟩ : MethodName)) hown (mvT hZ (hw _ (List.mem_of_getElem? (i := 1) rfl))) (mvT hZ (hw _ (List.mem_of_getElem? (i := 2) rfl))) (mvT hZ (hw _ (List.mem_of_getElem? (i := 3) rfl))) (mvT hZ (hw _ (List.mem_of_getElem? (i := 4) rfl))) (by decide) (backOf (W := 0) (rm_mk1 l Z a0 hw [] s0 s1 cs T24.heap n0 f25_0 f25_7 (own_255 hs0) hcs) hZ (hw _ (List.mem_of_getElem? (i := 4) rfl)) (hw _ (List.mem_of_getElem? (i := 3) rfl)) (by decide) (by decide)) (g := (mkF m 132 #[.val (.int p0), .val (.int p1), .val (.int p2), .val (.int p3), .val (.int p4), .val (.int p5), .val (.int kx), .val (.int (2 : Int32)), .val (.int (1 : Int32)), .val (.int t0), .val (.int t1), .val (.int s0), .val (.int s1), .val (.int (0 : Int32)), .val (.ref b24_0), .unset, .unset, .unset] [(.int s1), (.int s0), (.int (1 : Int32))])) rfl (by rw [hml]; rfl) (argsL := [(.int (1 : Int32)), (.int s0), (.int s1)]) (rest := []) (lenOf own_tailpd0_0 rfl) rfl (by show 2 * 0 + _ ≤ _; exact Nat.le_of_eq rfl) (hb hby at_132) (fun _ _ => ⟨rfl, rfl, (by decide : 3 + 3 ≤ _), (by decide : 8 + 6 ≤ _)⟩)
        dsimp only [Pt.U, Pt.locs, Pt.cells, Pt.slots] at X28 l28 y28 z28 st28 hQ28
        subst l28 y28 z28
        obtain ⟨b28_0, b28_1, k28_0, rfl, N28q, K28, sf28_0, sf28_1, o28_0, o28_1, o28_2, o28_3⟩ := hQ28
        have ne_b24_0_b28_0 : b24_0 ≠ b28_0 := Nat.ne_of_lt (Nat.lt_of_lt_of_le o24_0.lt sf28_0)
        have ne_b24_1_b28_0 : b24_1 ≠ b28_0 := Nat.ne_of_lt (Nat.lt_of_lt_of_le o24_3.lt sf28_0)
        have g_b28_0 : n0 ≤ b28_0 := Nat.le_trans f25_0 sf28_0
        have ne_b24_0_b28_1 : b24_0 ≠ b28_1 := Nat.ne_of_lt (Nat.lt_of_lt_of_le o24_0.lt sf28_1)
        have ne_b24_1_b28_1 : b24_1 ≠ b28_1 := Nat.ne_of_lt (Nat.lt_of_lt_of_le o24_3.lt sf28_1)
        have g_b28_1 : n0 ≤ b28_1 := Nat.le_trans f25_0 sf28_1
        have sf_b28_0 : Safe Z consts_1 vm0 T24.heap b28_0 := Safe.new sf28_0
        have sf_b28_1 : Safe Z consts_1 vm0 T24.heap b28_1 := Safe.new sf28_1
        have f29_0 := Nat.le_trans f25_0 K28.1
        have f29_1 := Sta_keep0 f25_1 K28
        have f29_2 := Sta_keep0 f25_2 K28
        have f29_3 := Sta_keep0 f25_3 K28
        have f29_4 := Sta_keep0 f25_4 K28
        have f29_5 := Sta_keep0 f25_5 K28
        have f29_6 := Sta_keep0 f25_6 K28
        have f29_7 := Sta_keep0 f25_7 K28
        have f29_8 := CHv.keep K28 sf0 f25_8
        have f29_9 := Nat.le_trans f25_9 K28.1
        have f29_10 := Safe.keep K28 sf0 f25_8 f25_10
        have f29_11 := Safe.keep K28 sf0 f25_8 f25_11
        have f29_12 := o24_0.keep K28
        have f29_13 := o24_1.keep K28 nin0
        have f29_14 := o24_2.keep K28 nin0
        have f29_15 := o24_3.keep K28 nin0
        have f29_16 := Safe.keep K28 sf0 f25_8 sf_b28_0
        have f29_17 := Safe.keep K28 sf0 f25_8 sf_b28_1
        have N28 := Fr.app N24 N28q
        refine Wp.back (U' := (T28.setTop (mkF m 135 #[.val (.int p0), .val (.int p1), .val (.int p2), .val (.int p3), .val (.int p4), .val (.int p5), .val (.int kx), .val (.int (2 : Int32)), .val (.int (1 : Int32)), .val (.int t0), .val (.int t1), .val (.int s0), .val (.int s1), .val (.int (0 : Int32)), .val (.ref b24_0), .unset, .unset, .unset] [(.ref b28_0)]))) st28 ?_
        refine Wp.back (U' := (T28.setTop (mkF m 137 #[.val (.int p0), .val (.int p1), .val (.int p2), .val (.int p3), .val (.int p4), .val (.int p5), .val (.int kx), .val (.int (2 : Int32)), .val (.int (1 : Int32)), .val (.int t0), .val (.int t1), .val (.int s0), .val (.int s1), .val (.int (0 : Int32)), .val (.ref b24_0), .val (.ref b28_0), .unset, .unset] []))) (fun t k => XS.astore X28.here hx rfl (hb hby at_135) rfl rfl (l' := #[.val (.int p0), .val (.int p1), .val (.int p2), .val (.int p3), .val (.int p4), .val (.int p5), .val (.int kx), .val (.int (2 : Int32)), .val (.int (1 : Int32)), .val (.int t0), .val (.int t1), .val (.int s0), .val (.int s1), .val (.int (0 : Int32)), .val (.ref b24_0), .val (.ref b28_0), .unset, .unset]) rfl k) ?_
        by_cases hk4 : kx = (4 : Int32)
        · subst hk4
          exact own_t4ne (p0) (p1) (p2) (p3) (p4) (p5) ((2 : Int32)) ((1 : Int32)) (t0) (t1) (s0) (s1) (u0) (u1) (u2) (u3) (u4) (u5) (cs) (b24_0) (b28_0) (b24_1) (b28_1) (k24_0) (k28_0) ((2 : Int32)) ((1 : Int32)) ([(.int (nar .byte ((nar .char t0)).toInt8.toInt32)), (.int (nar .byte ((nar .char t1)).toInt8.toInt32))]) ([(.int (nar .byte ((nar .char s0)).toInt8.toInt32))]) ((.int (0 : Int32))) ((.int (0 : Int32))) hx hw hby hml hret hlk hZ hown (own_more X28 (by decide) (by decide)) rfl N28 f29_0 hS0 f29_9 f29_1 f29_2 f29_3 f29_4 f29_5 f29_6 f29_7 f29_12 f29_13 f29_14 f29_15 o28_0 o28_1 o28_2 o28_3 hcs nu0 nu1 nu2 nu3 nu5 ne_b24_0_b28_0 (by decide) (by decide)
        · have hk4' := hk4
          exact own_txr (p0) (p1) (p2) (p3) (p4) (p5) (kx) ((2 : Int32)) ((1 : Int32)) (t0) (t1) (s0) (s1) (u0) (u1) (u2) (u3) (u4) (u5) (cs) (b24_0) (b28_0) hx hw hby hml hret hlk hZ hown (own_more X28 (by decide) (by decide)) rfl N28 f29_0 hS0 f29_9 f29_1 f29_2 f29_3 f29_4 f29_5 f29_6 f29_7 hcs nu0 nu1 nu2 nu3 nu5 hk4
      · refine Wp.back (U' := (T24.setTop (mkF m 132 #[.val (.int p0), .val (.int p1), .val (.int p2), .val (.int p3), .val (.int p4), .val (.int p5), .val (.int kx), .val (.int (2 : Int32)), .val (.int (2 : Int32)), .val (.int t0), .val (.int t1), .val (.int s0), .val (.int s1), .val (.int (0 : Int32)), .val (.ref b24_0), .unset, .unset, .unset] [(.int s1), (.int s0), (.int (2 : Int32))]))) (fun t k => XS.iload X24.here hx rfl (hb hby at_126) rfl (XS.iload X24.here hx rfl (hb hby at_128) rfl (XS.iload X24.here hx rfl (hb hby at_130) rfl k))) ?_
        obtain ⟨_, _, ⟨T30, L30, k30, n30⟩, -, X30, ⟨Lc30, hQ30, l30, y30, z30⟩, st30⟩ := Jvm.LawKit.callS X24 hx (y := (⟨"com/example/query_to_table/querytotable/sql/TokenIsSymbolPinLaw", "mk", "(ICC)Ljava/lang/String;"⟩ : MethodName)) hown (mvT hZ (hw _ (List.mem_of_getElem? (i := 1) rfl))) (mvT hZ (hw _ (List.mem_of_getElem? (i := 2) rfl))) (mvT hZ (hw _ (List.mem_of_getElem? (i := 3) rfl))) (mvT hZ (hw _ (List.mem_of_getElem? (i := 4) rfl))) (by decide) (backOf (W := 0) (rm_mk2 l Z a0 hw [] s0 s1 cs T24.heap n0 f25_0 f25_7 (own_255 hs0) (own_255 hs1) hcs) hZ (hw _ (List.mem_of_getElem? (i := 4) rfl)) (hw _ (List.mem_of_getElem? (i := 3) rfl)) (by decide) (by decide)) (g := (mkF m 132 #[.val (.int p0), .val (.int p1), .val (.int p2), .val (.int p3), .val (.int p4), .val (.int p5), .val (.int kx), .val (.int (2 : Int32)), .val (.int (2 : Int32)), .val (.int t0), .val (.int t1), .val (.int s0), .val (.int s1), .val (.int (0 : Int32)), .val (.ref b24_0), .unset, .unset, .unset] [(.int s1), (.int s0), (.int (2 : Int32))])) rfl (by rw [hml]; rfl) (argsL := [(.int (2 : Int32)), (.int s0), (.int s1)]) (rest := []) (lenOf own_tailpd0_0 rfl) rfl (by show 2 * 0 + _ ≤ _; exact Nat.le_of_eq rfl) (hb hby at_132) (fun _ _ => ⟨rfl, rfl, (by decide : 3 + 3 ≤ _), (by decide : 8 + 8 ≤ _)⟩)
        dsimp only [Pt.U, Pt.locs, Pt.cells, Pt.slots] at X30 l30 y30 z30 st30 hQ30
        subst l30 y30 z30
        obtain ⟨b30_0, b30_1, k30_0, rfl, N30q, K30, sf30_0, sf30_1, o30_0, o30_1, o30_2, o30_3⟩ := hQ30
        have ne_b24_0_b30_0 : b24_0 ≠ b30_0 := Nat.ne_of_lt (Nat.lt_of_lt_of_le o24_0.lt sf30_0)
        have ne_b24_1_b30_0 : b24_1 ≠ b30_0 := Nat.ne_of_lt (Nat.lt_of_lt_of_le o24_3.lt sf30_0)
        have g_b30_0 : n0 ≤ b30_0 := Nat.le_trans f25_0 sf30_0
        have ne_b24_0_b30_1 : b24_0 ≠ b30_1 := Nat.ne_of_lt (Nat.lt_of_lt_of_le o24_0.lt sf30_1)
        have ne_b24_1_b30_1 : b24_1 ≠ b30_1 := Nat.ne_of_lt (Nat.lt_of_lt_of_le o24_3.lt sf30_1)
        have g_b30_1 : n0 ≤ b30_1 := Nat.le_trans f25_0 sf30_1
        have sf_b30_0 : Safe Z consts_1 vm0 T24.heap b30_0 := Safe.new sf30_0
        have sf_b30_1 : Safe Z consts_1 vm0 T24.heap b30_1 := Safe.new sf30_1
        have f31_0 := Nat.le_trans f25_0 K30.1
        have f31_1 := Sta_keep0 f25_1 K30
        have f31_2 := Sta_keep0 f25_2 K30
        have f31_3 := Sta_keep0 f25_3 K30
        have f31_4 := Sta_keep0 f25_4 K30
        have f31_5 := Sta_keep0 f25_5 K30
        have f31_6 := Sta_keep0 f25_6 K30
        have f31_7 := Sta_keep0 f25_7 K30
        have f31_8 := CHv.keep K30 sf0 f25_8
        have f31_9 := Nat.le_trans f25_9 K30.1
        have f31_10 := Safe.keep K30 sf0 f25_8 f25_10
        have f31_11 := Safe.keep K30 sf0 f25_8 f25_11
        have f31_12 := o24_0.keep K30
        have f31_13 := o24_1.keep K30 nin0
        have f31_14 := o24_2.keep K30 nin0
        have f31_15 := o24_3.keep K30 nin0
        have f31_16 := Safe.keep K30 sf0 f25_8 sf_b30_0
        have f31_17 := Safe.keep K30 sf0 f25_8 sf_b30_1
        have N30 := Fr.app N24 N30q
        refine Wp.back (U' := (T30.setTop (mkF m 135 #[.val (.int p0), .val (.int p1), .val (.int p2), .val (.int p3), .val (.int p4), .val (.int p5), .val (.int kx), .val (.int (2 : Int32)), .val (.int (2 : Int32)), .val (.int t0), .val (.int t1), .val (.int s0), .val (.int s1), .val (.int (0 : Int32)), .val (.ref b24_0), .unset, .unset, .unset] [(.ref b30_0)]))) st30 ?_
        refine Wp.back (U' := (T30.setTop (mkF m 137 #[.val (.int p0), .val (.int p1), .val (.int p2), .val (.int p3), .val (.int p4), .val (.int p5), .val (.int kx), .val (.int (2 : Int32)), .val (.int (2 : Int32)), .val (.int t0), .val (.int t1), .val (.int s0), .val (.int s1), .val (.int (0 : Int32)), .val (.ref b24_0), .val (.ref b30_0), .unset, .unset] []))) (fun t k => XS.astore X30.here hx rfl (hb hby at_135) rfl rfl (l' := #[.val (.int p0), .val (.int p1), .val (.int p2), .val (.int p3), .val (.int p4), .val (.int p5), .val (.int kx), .val (.int (2 : Int32)), .val (.int (2 : Int32)), .val (.int t0), .val (.int t1), .val (.int s0), .val (.int s1), .val (.int (0 : Int32)), .val (.ref b24_0), .val (.ref b30_0), .unset, .unset]) rfl k) ?_
        by_cases hk4 : kx = (4 : Int32)
        · subst hk4
          exact own_t4_2 (p0) (p1) (p2) (p3) (p4) (p5) (t0) (t1) (s0) (s1) (u0) (u1) (u2) (u3) (u4) (u5) (cs) (b24_0) (b30_0) (b24_1) (b30_1) (k24_0) (k30_0) hx hw hby hml hret hlk hZ hown (own_more X30 (by decide) (by decide)) rfl N30 f31_0 hS0 f31_9 f31_1 f31_2 f31_3 f31_4 f31_5 f31_6 f31_7 f31_12 f31_13 f31_14 f31_15 o30_0 o30_1 o30_2 o30_3 hcs nu0 nu1 nu2 nu3 nu5 ne_b24_0_b30_0 ht0 ht1 hs0 hs1
        · have hk4' := hk4
          exact own_txr (p0) (p1) (p2) (p3) (p4) (p5) (kx) ((2 : Int32)) ((2 : Int32)) (t0) (t1) (s0) (s1) (u0) (u1) (u2) (u3) (u4) (u5) (cs) (b24_0) (b30_0) hx hw hby hml hret hlk hZ hown (own_more X30 (by decide) (by decide)) rfl N30 f31_0 hS0 f31_9 f31_1 f31_2 f31_3 f31_4 f31_5 f31_6 f31_7 hcs nu0 nu1 nu2 nu3 nu5 hk4
theorem pn0 : plainName "com/example/query_to_table/querytotable/sql/TokenIsSymbolPinLaw" = true := by first | (simp [plainName, overriddenIn]; done) | decide +kernel
theorem ef0 (m : MethodId) (x0 : Int32) (x1 : Int32) (x2 : Int32) (x3 : Int32) (x4 : Int32) (x5 : Int32) : entryFrame m #[(.int x0), (.int x1), (.int x2), (.int x3), (.int x4), (.int x5)] maxLocals = mkF m 0 #[.val (.int x0), .val (.int x1), .val (.int x2), .val (.int x3), .val (.int x4), .val (.int x5), .unset, .unset, .unset, .unset, .unset, .unset, .unset, .unset, .unset, .unset, .unset, .unset] [] := by first | (simp [entryFrame, mkF, argsToLocals, Value.category, maxLocals]; done) | rfl
set_option maxRecDepth 65536 in
set_option maxHeartbeats 40000000 in
theorem rm_law (l : Launch) (Z : State) (a0 : Array Value) (hw : ∀ d ∈ tables_1, d.before a0 Z = true) (ws : List Jvm.Cond) (p0 : Int32) (p1 : Int32) (p2 : Int32) (p3 : Int32) (p4 : Int32) (p5 : Int32) (u0 u1 u2 u3 u4 u5 : Addr) (cs : Int32) (h0 : Heap) (n0 : Nat) (Z0 : n0 ≤ h0.size) (SK0 : Sta Z h0 "com/example/query_to_table/querytotable/sql/Token$Kind" "WORD" "Lcom/example/query_to_table/querytotable/sql/Token$Kind;" (.ref u0)) (SK1 : Sta Z h0 "com/example/query_to_table/querytotable/sql/Token$Kind" "QUOTED_NAME" "Lcom/example/query_to_table/querytotable/sql/Token$Kind;" (.ref u1)) (SK2 : Sta Z h0 "com/example/query_to_table/querytotable/sql/Token$Kind" "STRING" "Lcom/example/query_to_table/querytotable/sql/Token$Kind;" (.ref u2)) (SK3 : Sta Z h0 "com/example/query_to_table/querytotable/sql/Token$Kind" "NUMBER" "Lcom/example/query_to_table/querytotable/sql/Token$Kind;" (.ref u3)) (SK4 : Sta Z h0 "com/example/query_to_table/querytotable/sql/Token$Kind" "SYMBOL" "Lcom/example/query_to_table/querytotable/sql/Token$Kind;" (.ref u4)) (SK5 : Sta Z h0 "com/example/query_to_table/querytotable/sql/Token$Kind" "UNCLOSED" "Lcom/example/query_to_table/querytotable/sql/Token$Kind;" (.ref u5)) (PC : Sta Z h0 "java/lang/String" "COMPACT_STRINGS" "Z" (.int cs)) (hcs : ¬ cs = (0 : Int32)) (nu0 : u0 ≠ u4) (nu1 : u1 ≠ u4) (nu2 : u2 ≠ u4) (nu3 : u3 ≠ u4) (nu5 : u5 ≠ u4) :
    MetFree l x (head1 (Jvm.Cond.code x code maxLocals ret :: ws) room_1) (fun a U => a = #[(.int p0), (.int p1), (.int p2), (.int p3), (.int p4), (.int p5)] ∧ Z.Warmed39 U.vm ∧ U.heap = h0 ∧ CHv Z consts_1 U.vm h0) (fun _ _ _ _ _ => True) (fun _ U o U' => ∃ v L, o = .returned v ∧ QL n0 v U'.heap L ∧ ReturnedEndW U o U' L 24 1152) := by
  refine MetFree.of_bodySF (plainFor_of_name pn0) hisR ?_
  intro p e s m args below meth c s₁ Bd hml0 hP hK
  obtain ⟨rfl, hZ, hh, hCH⟩ := hP
  have hx := Bd.exec
  have hby := Bd.bytes
  have hret := Bd.returns
  have hlk := Bd.notSynchronized
  have hml : c.maxLocals = 18 := hml0
  have hown : s.vm.findClass "com/example/query_to_table/querytotable/sql/TokenIsSymbolPinLaw" = some m.cls := findClass_of_methodNamed Bd.named
  have hnm := (name_of_methodNamed Bd.named Bd.method).1
  have hZ : Z.Warmed39 (s.setVm s.vm).vm := hZ
  have hown : (s.setVm s.vm).vm.findClass "com/example/query_to_table/querytotable/sql/TokenIsSymbolPinLaw" = some m.cls := hown
  have hS0 : s.Since s.vm h0.size := (State.WarmedH.refl s).since _
  have hk0 : h0.size ≤ h0.size := Nat.le_refl _
  have CR0 : CHr Z consts_1 s.vm h0 s.vm h0 := CHr.refl hCH
  have hEL : EW Z a0 consts_1 := own_EW hw
  have wS := own_wS hw
  have X0 : Stand p l e room_1 (s.setVm s.vm) m #[(.int p0), (.int p1), (.int p2), (.int p3), (.int p4), (.int p5)] below meth c s₁ [] 0 0 := Stand.of_body Bd
  have e0 : s₁.heap = h0 := by rw [← hh, Bd.state]; rfl
  have N0 := Fr.nil n0
  show Wp p e below (fun o s₂ => ∃ v L, o = .returned v ∧ QL n0 v s₂.heap L ∧ ReturnedEndW s o s₂ L 24 1152) _
  refine Wp.back (U' := (s₁.setTop (mkF m 0 #[.val (.int p0), .val (.int p1), .val (.int p2), .val (.int p3), .val (.int p4), .val (.int p5), .unset, .unset, .unset, .unset, .unset, .unset, .unset, .unset, .unset, .unset, .unset, .unset] []))) (fun t k => castTop (ef0 m p0 p1 p2 p3 p4 p5) k) ?_
  refine Wp.back (U' := (s₁.setTop (mkF m 17 #[.val (.int p0), .val (.int p1), .val (.int p2), .val (.int p3), .val (.int p4), .val (.int p5), .val (.int ((p0 &&& (2147483647 : Int32)) % (6 : Int32))), .val (.int ((p5 &&& (3 : Int32)) % (3 : Int32))), .unset, .unset, .unset, .unset, .unset, .unset, .unset, .unset, .unset, .unset] []))) (fun t k => XS.iloadN X0.here hx rfl (hb hby at_0) rfl (Jvm.Stand.ldcI X0 hx hown (mvT hZ (hw _ (List.mem_of_getElem? (i := 0) rfl))) rfl (hb hby at_1) (XS.iand X0.here hx rfl (hb hby at_3) rfl (XT.bipushV X0.here hx rfl (6 : Int32) (hb hby at_4) (by decide) (iremM X0 hx rfl (hb hby at_6) rfl (by decide) (XS.istore X0.here hx rfl (hb hby at_7) rfl (l' := #[.val (.int p0), .val (.int p1), .val (.int p2), .val (.int p3), .val (.int p4), .val (.int p5), .val (.int ((p0 &&& (2147483647 : Int32)) % (6 : Int32))), .unset, .unset, .unset, .unset, .unset, .unset, .unset, .unset, .unset, .unset, .unset]) rfl (XS.iload X0.here hx rfl (hb hby at_9) rfl (XT.iconstV X0.here hx rfl (3 : Int32) (hb hby at_11) (by decide) (XS.iand X0.here hx rfl (hb hby at_12) rfl (XT.iconstV X0.here hx rfl (3 : Int32) (hb hby at_13) (by decide) (iremM X0 hx rfl (hb hby at_14) rfl (by decide) (XS.istore X0.here hx rfl (hb hby at_15) rfl (l' := #[.val (.int p0), .val (.int p1), .val (.int p2), .val (.int p3), .val (.int p4), .val (.int p5), .val (.int ((p0 &&& (2147483647 : Int32)) % (6 : Int32))), .val (.int ((p5 &&& (3 : Int32)) % (3 : Int32))), .unset, .unset, .unset, .unset, .unset, .unset, .unset, .unset, .unset, .unset]) rfl k)))))))))))) ?_
  refine Wp.back (U' := (s₁.setTop (mkF m 33 #[.val (.int p0), .val (.int p1), .val (.int p2), .val (.int p3), .val (.int p4), .val (.int p5), .val (.int ((p0 &&& (2147483647 : Int32)) % (6 : Int32))), .val (.int ((p5 &&& (3 : Int32)) % (3 : Int32))), .val (.int (((((p5).toUInt32 >>> ((2 : Int32) &&& 31).toUInt32).toInt32) &&& (3 : Int32)) % (3 : Int32))), .unset, .unset, .unset, .unset, .unset, .unset, .unset, .unset, .unset] [(.int ((p1 &&& (255 : Int32))).toUInt32.toUInt16.toUInt32.toInt32)]))) (fun t k => XS.iload X0.here hx rfl (hb hby at_17) rfl (XT.iconstV X0.here hx rfl (2 : Int32) (hb hby at_19) (by decide) (XS.iushr X0.here hx rfl (hb hby at_20) rfl (XT.iconstV X0.here hx rfl (3 : Int32) (hb hby at_21) (by decide) (XS.iand X0.here hx rfl (hb hby at_22) rfl (XT.iconstV X0.here hx rfl (3 : Int32) (hb hby at_23) (by decide) (iremM X0 hx rfl (hb hby at_24) rfl (by decide) (XS.istore X0.here hx rfl (hb hby at_25) rfl (l' := #[.val (.int p0), .val (.int p1), .val (.int p2), .val (.int p3), .val (.int p4), .val (.int p5), .val (.int ((p0 &&& (2147483647 : Int32)) % (6 : Int32))), .val (.int ((p5 &&& (3 : Int32)) % (3 : Int32))), .val (.int (((((p5).toUInt32 >>> ((2 : Int32) &&& 31).toUInt32).toInt32) &&& (3 : Int32)) % (3 : Int32))), .unset, .unset, .unset, .unset, .unset, .unset, .unset, .unset, .unset]) rfl (XS.iloadN X0.here hx rfl (hb hby at_27) rfl (XT.sipushV X0.here hx rfl (255 : Int32) (hb hby at_28) (by decide) (XS.iand X0.here hx rfl (hb hby at_31) rfl (XS.i2c X0.here hx rfl (hb hby at_32) rfl k)))))))))))) ?_
  refine Wp.back (U' := (s₁.setTop (mkF m 49 #[.val (.int p0), .val (.int p1), .val (.int p2), .val (.int p3), .val (.int p4), .val (.int p5), .val (.int ((p0 &&& (2147483647 : Int32)) % (6 : Int32))), .val (.int ((p5 &&& (3 : Int32)) % (3 : Int32))), .val (.int (((((p5).toUInt32 >>> ((2 : Int32) &&& 31).toUInt32).toInt32) &&& (3 : Int32)) % (3 : Int32))), .val (.int ((p1 &&& (255 : Int32))).toUInt32.toUInt16.toUInt32.toInt32), .val (.int ((p2 &&& (255 : Int32))).toUInt32.toUInt16.toUInt32.toInt32), .unset, .unset, .unset, .unset, .unset, .unset, .unset] [(.int ((((p5).toUInt32 >>> ((4 : Int32) &&& 31).toUInt32).toInt32) &&& (1 : Int32)))]))) (fun t k => XS.istore X0.here hx rfl (hb hby at_33) rfl (l' := #[.val (.int p0), .val (.int p1), .val (.int p2), .val (.int p3), .val (.int p4), .val (.int p5), .val (.int ((p0 &&& (2147483647 : Int32)) % (6 : Int32))), .val (.int ((p5 &&& (3 : Int32)) % (3 : Int32))), .val (.int (((((p5).toUInt32 >>> ((2 : Int32) &&& 31).toUInt32).toInt32) &&& (3 : Int32)) % (3 : Int32))), .val (.int ((p1 &&& (255 : Int32))).toUInt32.toUInt16.toUInt32.toInt32), .unset, .unset, .unset, .unset, .unset, .unset, .unset, .unset]) rfl (XS.iloadN X0.here hx rfl (hb hby at_35) rfl (XT.sipushV X0.here hx rfl (255 : Int32) (hb hby at_36) (by decide) (XS.iand X0.here hx rfl (hb hby at_39) rfl (XS.i2c X0.here hx rfl (hb hby at_40) rfl (XS.istore X0.here hx rfl (hb hby at_41) rfl (l' := #[.val (.int p0), .val (.int p1), .val (.int p2), .val (.int p3), .val (.int p4), .val (.int p5), .val (.int ((p0 &&& (2147483647 : Int32)) % (6 : Int32))), .val (.int ((p5 &&& (3 : Int32)) % (3 : Int32))), .val (.int (((((p5).toUInt32 >>> ((2 : Int32) &&& 31).toUInt32).toInt32) &&& (3 : Int32)) % (3 : Int32))), .val (.int ((p1 &&& (255 : Int32))).toUInt32.toUInt16.toUInt32.toInt32), .val (.int ((p2 &&& (255 : Int32))).toUInt32.toUInt16.toUInt32.toInt32), .unset, .unset, .unset, .unset, .unset, .unset, .unset]) rfl (XS.iload X0.here hx rfl (hb hby at_43) rfl (XT.iconstV X0.here hx rfl (4 : Int32) (hb hby at_45) (by decide) (XS.iushr X0.here hx rfl (hb hby at_46) rfl (XT.iconstV X0.here hx rfl (1 : Int32) (hb hby at_47) (by decide) (XS.iand X0.here hx rfl (hb hby at_48) rfl k))))))))))) ?_
  by_cases c49_1 : ((((p5).toUInt32 >>> ((4 : Int32) &&& 31).toUInt32).toInt32) &&& (1 : Int32)) = (0 : Int32)
  · refine Wp.back (U' := (s₁.setTop (mkF m 71 #[.val (.int p0), .val (.int p1), .val (.int p2), .val (.int p3), .val (.int p4), .val (.int p5), .val (.int ((p0 &&& (2147483647 : Int32)) % (6 : Int32))), .val (.int ((p5 &&& (3 : Int32)) % (3 : Int32))), .val (.int (((((p5).toUInt32 >>> ((2 : Int32) &&& 31).toUInt32).toInt32) &&& (3 : Int32)) % (3 : Int32))), .val (.int ((p1 &&& (255 : Int32))).toUInt32.toUInt16.toUInt32.toInt32), .val (.int ((p2 &&& (255 : Int32))).toUInt32.toUInt16.toUInt32.toInt32), .val (.int ((p3 &&& (255 : Int32))).toUInt32.toUInt16.toUInt32.toInt32), .unset, .unset, .unset, .unset, .unset, .unset] [(.int ((((p5).toUInt32 >>> ((5 : Int32) &&& 31).toUInt32).toInt32) &&& (1 : Int32)))]))) (fun t k => XS.ifYes X0.here hx rfl (pc0 := 49) (pc' := 57) rfl (hb hby at_49) rfl ((if0 _ _).trans (teq c49_1).1) (by decide) (by decide) (XS.iloadN X0.here hx rfl (hb hby at_57) rfl (XT.sipushV X0.here hx rfl (255 : Int32) (hb hby at_58) (by decide) (XS.iand X0.here hx rfl (hb hby at_61) rfl (XS.i2c X0.here hx rfl (hb hby at_62) rfl (XS.istore X0.here hx rfl (hb hby at_63) rfl (l' := #[.val (.int p0), .val (.int p1), .val (.int p2), .val (.int p3), .val (.int p4), .val (.int p5), .val (.int ((p0 &&& (2147483647 : Int32)) % (6 : Int32))), .val (.int ((p5 &&& (3 : Int32)) % (3 : Int32))), .val (.int (((((p5).toUInt32 >>> ((2 : Int32) &&& 31).toUInt32).toInt32) &&& (3 : Int32)) % (3 : Int32))), .val (.int ((p1 &&& (255 : Int32))).toUInt32.toUInt16.toUInt32.toInt32), .val (.int ((p2 &&& (255 : Int32))).toUInt32.toUInt16.toUInt32.toInt32), .val (.int ((p3 &&& (255 : Int32))).toUInt32.toUInt16.toUInt32.toInt32), .unset, .unset, .unset, .unset, .unset, .unset]) rfl (XS.iload X0.here hx rfl (hb hby at_65) rfl (XT.iconstV X0.here hx rfl (5 : Int32) (hb hby at_67) (by decide) (XS.iushr X0.here hx rfl (hb hby at_68) rfl (XT.iconstV X0.here hx rfl (1 : Int32) (hb hby at_69) (by decide) (XS.iand X0.here hx rfl (hb hby at_70) rfl k))))))))))) ?_
    by_cases c71_2 : ((((p5).toUInt32 >>> ((5 : Int32) &&& 31).toUInt32).toInt32) &&& (1 : Int32)) = (0 : Int32)
    · refine Wp.back (U' := (s₁.setTop (mkF m 88 #[.val (.int p0), .val (.int p1), .val (.int p2), .val (.int p3), .val (.int p4), .val (.int p5), .val (.int ((p0 &&& (2147483647 : Int32)) % (6 : Int32))), .val (.int ((p5 &&& (3 : Int32)) % (3 : Int32))), .val (.int (((((p5).toUInt32 >>> ((2 : Int32) &&& 31).toUInt32).toInt32) &&& (3 : Int32)) % (3 : Int32))), .val (.int ((p1 &&& (255 : Int32))).toUInt32.toUInt16.toUInt32.toInt32), .val (.int ((p2 &&& (255 : Int32))).toUInt32.toUInt16.toUInt32.toInt32), .val (.int ((p3 &&& (255 : Int32))).toUInt32.toUInt16.toUInt32.toInt32), .val (.int ((p4 &&& (255 : Int32))).toUInt32.toUInt16.toUInt32.toInt32), .unset, .unset, .unset, .unset, .unset] []))) (fun t k => XS.ifYes X0.here hx rfl (pc0 := 71) (pc' := 79) rfl (hb hby at_71) rfl ((if0 _ _).trans (teq c71_2).1) (by decide) (by decide) (XS.iload X0.here hx rfl (hb hby at_79) rfl (XT.sipushV X0.here hx rfl (255 : Int32) (hb hby at_81) (by decide) (XS.iand X0.here hx rfl (hb hby at_84) rfl (XS.i2c X0.here hx rfl (hb hby at_85) rfl (XS.istore X0.here hx rfl (hb hby at_86) rfl (l' := #[.val (.int p0), .val (.int p1), .val (.int p2), .val (.int p3), .val (.int p4), .val (.int p5), .val (.int ((p0 &&& (2147483647 : Int32)) % (6 : Int32))), .val (.int ((p5 &&& (3 : Int32)) % (3 : Int32))), .val (.int (((((p5).toUInt32 >>> ((2 : Int32) &&& 31).toUInt32).toInt32) &&& (3 : Int32)) % (3 : Int32))), .val (.int ((p1 &&& (255 : Int32))).toUInt32.toUInt16.toUInt32.toInt32), .val (.int ((p2 &&& (255 : Int32))).toUInt32.toUInt16.toUInt32.toInt32), .val (.int ((p3 &&& (255 : Int32))).toUInt32.toUInt16.toUInt32.toInt32), .val (.int ((p4 &&& (255 : Int32))).toUInt32.toUInt16.toUInt32.toInt32), .unset, .unset, .unset, .unset, .unset]) rfl k)))))) ?_
      exact own_tail (p0) (p1) (p2) (p3) (p4) (p5) (((p0 &&& (2147483647 : Int32)) % (6 : Int32))) (((p5 &&& (3 : Int32)) % (3 : Int32))) ((((((p5).toUInt32 >>> ((2 : Int32) &&& 31).toUInt32).toInt32) &&& (3 : Int32)) % (3 : Int32))) (((p1 &&& (255 : Int32))).toUInt32.toUInt16.toUInt32.toInt32) (((p2 &&& (255 : Int32))).toUInt32.toUInt16.toUInt32.toInt32) (((p3 &&& (255 : Int32))).toUInt32.toUInt16.toUInt32.toInt32) (((p4 &&& (255 : Int32))).toUInt32.toUInt16.toUInt32.toInt32) (u0) (u1) (u2) (u3) (u4) (u5) (cs) hx hw hby hml hret hlk hZ hown X0 e0 N0 Z0 hS0 hk0 SK0 SK1 SK2 SK3 SK4 SK5 PC hCH hcs (own_r3 _) (own_r3 _) (own_m _) (own_m _) (own_m _) (own_m _) nu0 nu1 nu2 nu3 nu5
    · refine Wp.back (U' := (s₁.setTop (mkF m 88 #[.val (.int p0), .val (.int p1), .val (.int p2), .val (.int p3), .val (.int p4), .val (.int p5), .val (.int ((p0 &&& (2147483647 : Int32)) % (6 : Int32))), .val (.int ((p5 &&& (3 : Int32)) % (3 : Int32))), .val (.int (((((p5).toUInt32 >>> ((2 : Int32) &&& 31).toUInt32).toInt32) &&& (3 : Int32)) % (3 : Int32))), .val (.int ((p1 &&& (255 : Int32))).toUInt32.toUInt16.toUInt32.toInt32), .val (.int ((p2 &&& (255 : Int32))).toUInt32.toUInt16.toUInt32.toInt32), .val (.int ((p3 &&& (255 : Int32))).toUInt32.toUInt16.toUInt32.toInt32), .val (.int ((p2 &&& (255 : Int32))).toUInt32.toUInt16.toUInt32.toInt32), .unset, .unset, .unset, .unset, .unset] []))) (fun t k => XS.ifNo X0.here hx rfl (hb hby at_71) rfl ((if0 _ _).trans (feq c71_2).1) (XS.iload X0.here hx rfl (hb hby at_74) rfl (XS.goto X0.here hx rfl (pc0 := 76) (pc' := 86) rfl (hb hby at_76) (by decide) (by decide) (XS.istore X0.here hx rfl (hb hby at_86) rfl (l' := #[.val (.int p0), .val (.int p1), .val (.int p2), .val (.int p3), .val (.int p4), .val (.int p5), .val (.int ((p0 &&& (2147483647 : Int32)) % (6 : Int32))), .val (.int ((p5 &&& (3 : Int32)) % (3 : Int32))), .val (.int (((((p5).toUInt32 >>> ((2 : Int32) &&& 31).toUInt32).toInt32) &&& (3 : Int32)) % (3 : Int32))), .val (.int ((p1 &&& (255 : Int32))).toUInt32.toUInt16.toUInt32.toInt32), .val (.int ((p2 &&& (255 : Int32))).toUInt32.toUInt16.toUInt32.toInt32), .val (.int ((p3 &&& (255 : Int32))).toUInt32.toUInt16.toUInt32.toInt32), .val (.int ((p2 &&& (255 : Int32))).toUInt32.toUInt16.toUInt32.toInt32), .unset, .unset, .unset, .unset, .unset]) rfl k)))) ?_
      exact own_tail (p0) (p1) (p2) (p3) (p4) (p5) (((p0 &&& (2147483647 : Int32)) % (6 : Int32))) (((p5 &&& (3 : Int32)) % (3 : Int32))) ((((((p5).toUInt32 >>> ((2 : Int32) &&& 31).toUInt32).toInt32) &&& (3 : Int32)) % (3 : Int32))) (((p1 &&& (255 : Int32))).toUInt32.toUInt16.toUInt32.toInt32) (((p2 &&& (255 : Int32))).toUInt32.toUInt16.toUInt32.toInt32) (((p3 &&& (255 : Int32))).toUInt32.toUInt16.toUInt32.toInt32) (((p2 &&& (255 : Int32))).toUInt32.toUInt16.toUInt32.toInt32) (u0) (u1) (u2) (u3) (u4) (u5) (cs) hx hw hby hml hret hlk hZ hown X0 e0 N0 Z0 hS0 hk0 SK0 SK1 SK2 SK3 SK4 SK5 PC hCH hcs (own_r3 _) (own_r3 _) (own_m _) (own_m _) (own_m _) (own_m _) nu0 nu1 nu2 nu3 nu5
  · refine Wp.back (U' := (s₁.setTop (mkF m 71 #[.val (.int p0), .val (.int p1), .val (.int p2), .val (.int p3), .val (.int p4), .val (.int p5), .val (.int ((p0 &&& (2147483647 : Int32)) % (6 : Int32))), .val (.int ((p5 &&& (3 : Int32)) % (3 : Int32))), .val (.int (((((p5).toUInt32 >>> ((2 : Int32) &&& 31).toUInt32).toInt32) &&& (3 : Int32)) % (3 : Int32))), .val (.int ((p1 &&& (255 : Int32))).toUInt32.toUInt16.toUInt32.toInt32), .val (.int ((p2 &&& (255 : Int32))).toUInt32.toUInt16.toUInt32.toInt32), .val (.int ((p1 &&& (255 : Int32))).toUInt32.toUInt16.toUInt32.toInt32), .unset, .unset, .unset, .unset, .unset, .unset] [(.int ((((p5).toUInt32 >>> ((5 : Int32) &&& 31).toUInt32).toInt32) &&& (1 : Int32)))]))) (fun t k => XS.ifNo X0.here hx rfl (hb hby at_49) rfl ((if0 _ _).trans (feq c49_1).1) (XS.iload X0.here hx rfl (hb hby at_52) rfl (XS.goto X0.here hx rfl (pc0 := 54) (pc' := 63) rfl (hb hby at_54) (by decide) (by decide) (XS.istore X0.here hx rfl (hb hby at_63) rfl (l' := #[.val (.int p0), .val (.int p1), .val (.int p2), .val (.int p3), .val (.int p4), .val (.int p5), .val (.int ((p0 &&& (2147483647 : Int32)) % (6 : Int32))), .val (.int ((p5 &&& (3 : Int32)) % (3 : Int32))), .val (.int (((((p5).toUInt32 >>> ((2 : Int32) &&& 31).toUInt32).toInt32) &&& (3 : Int32)) % (3 : Int32))), .val (.int ((p1 &&& (255 : Int32))).toUInt32.toUInt16.toUInt32.toInt32), .val (.int ((p2 &&& (255 : Int32))).toUInt32.toUInt16.toUInt32.toInt32), .val (.int ((p1 &&& (255 : Int32))).toUInt32.toUInt16.toUInt32.toInt32), .unset, .unset, .unset, .unset, .unset, .unset]) rfl (XS.iload X0.here hx rfl (hb hby at_65) rfl (XT.iconstV X0.here hx rfl (5 : Int32) (hb hby at_67) (by decide) (XS.iushr X0.here hx rfl (hb hby at_68) rfl (XT.iconstV X0.here hx rfl (1 : Int32) (hb hby at_69) (by decide) (XS.iand X0.here hx rfl (hb hby at_70) rfl k))))))))) ?_
    by_cases c71_3 : ((((p5).toUInt32 >>> ((5 : Int32) &&& 31).toUInt32).toInt32) &&& (1 : Int32)) = (0 : Int32)
    · refine Wp.back (U' := (s₁.setTop (mkF m 88 #[.val (.int p0), .val (.int p1), .val (.int p2), .val (.int p3), .val (.int p4), .val (.int p5), .val (.int ((p0 &&& (2147483647 : Int32)) % (6 : Int32))), .val (.int ((p5 &&& (3 : Int32)) % (3 : Int32))), .val (.int (((((p5).toUInt32 >>> ((2 : Int32) &&& 31).toUInt32).toInt32) &&& (3 : Int32)) % (3 : Int32))), .val (.int ((p1 &&& (255 : Int32))).toUInt32.toUInt16.toUInt32.toInt32), .val (.int ((p2 &&& (255 : Int32))).toUInt32.toUInt16.toUInt32.toInt32), .val (.int ((p1 &&& (255 : Int32))).toUInt32.toUInt16.toUInt32.toInt32), .val (.int ((p4 &&& (255 : Int32))).toUInt32.toUInt16.toUInt32.toInt32), .unset, .unset, .unset, .unset, .unset] []))) (fun t k => XS.ifYes X0.here hx rfl (pc0 := 71) (pc' := 79) rfl (hb hby at_71) rfl ((if0 _ _).trans (teq c71_3).1) (by decide) (by decide) (XS.iload X0.here hx rfl (hb hby at_79) rfl (XT.sipushV X0.here hx rfl (255 : Int32) (hb hby at_81) (by decide) (XS.iand X0.here hx rfl (hb hby at_84) rfl (XS.i2c X0.here hx rfl (hb hby at_85) rfl (XS.istore X0.here hx rfl (hb hby at_86) rfl (l' := #[.val (.int p0), .val (.int p1), .val (.int p2), .val (.int p3), .val (.int p4), .val (.int p5), .val (.int ((p0 &&& (2147483647 : Int32)) % (6 : Int32))), .val (.int ((p5 &&& (3 : Int32)) % (3 : Int32))), .val (.int (((((p5).toUInt32 >>> ((2 : Int32) &&& 31).toUInt32).toInt32) &&& (3 : Int32)) % (3 : Int32))), .val (.int ((p1 &&& (255 : Int32))).toUInt32.toUInt16.toUInt32.toInt32), .val (.int ((p2 &&& (255 : Int32))).toUInt32.toUInt16.toUInt32.toInt32), .val (.int ((p1 &&& (255 : Int32))).toUInt32.toUInt16.toUInt32.toInt32), .val (.int ((p4 &&& (255 : Int32))).toUInt32.toUInt16.toUInt32.toInt32), .unset, .unset, .unset, .unset, .unset]) rfl k)))))) ?_
      exact own_tail (p0) (p1) (p2) (p3) (p4) (p5) (((p0 &&& (2147483647 : Int32)) % (6 : Int32))) (((p5 &&& (3 : Int32)) % (3 : Int32))) ((((((p5).toUInt32 >>> ((2 : Int32) &&& 31).toUInt32).toInt32) &&& (3 : Int32)) % (3 : Int32))) (((p1 &&& (255 : Int32))).toUInt32.toUInt16.toUInt32.toInt32) (((p2 &&& (255 : Int32))).toUInt32.toUInt16.toUInt32.toInt32) (((p1 &&& (255 : Int32))).toUInt32.toUInt16.toUInt32.toInt32) (((p4 &&& (255 : Int32))).toUInt32.toUInt16.toUInt32.toInt32) (u0) (u1) (u2) (u3) (u4) (u5) (cs) hx hw hby hml hret hlk hZ hown X0 e0 N0 Z0 hS0 hk0 SK0 SK1 SK2 SK3 SK4 SK5 PC hCH hcs (own_r3 _) (own_r3 _) (own_m _) (own_m _) (own_m _) (own_m _) nu0 nu1 nu2 nu3 nu5
    · refine Wp.back (U' := (s₁.setTop (mkF m 88 #[.val (.int p0), .val (.int p1), .val (.int p2), .val (.int p3), .val (.int p4), .val (.int p5), .val (.int ((p0 &&& (2147483647 : Int32)) % (6 : Int32))), .val (.int ((p5 &&& (3 : Int32)) % (3 : Int32))), .val (.int (((((p5).toUInt32 >>> ((2 : Int32) &&& 31).toUInt32).toInt32) &&& (3 : Int32)) % (3 : Int32))), .val (.int ((p1 &&& (255 : Int32))).toUInt32.toUInt16.toUInt32.toInt32), .val (.int ((p2 &&& (255 : Int32))).toUInt32.toUInt16.toUInt32.toInt32), .val (.int ((p1 &&& (255 : Int32))).toUInt32.toUInt16.toUInt32.toInt32), .val (.int ((p2 &&& (255 : Int32))).toUInt32.toUInt16.toUInt32.toInt32), .unset, .unset, .unset, .unset, .unset] []))) (fun t k => XS.ifNo X0.here hx rfl (hb hby at_71) rfl ((if0 _ _).trans (feq c71_3).1) (XS.iload X0.here hx rfl (hb hby at_74) rfl (XS.goto X0.here hx rfl (pc0 := 76) (pc' := 86) rfl (hb hby at_76) (by decide) (by decide) (XS.istore X0.here hx rfl (hb hby at_86) rfl (l' := #[.val (.int p0), .val (.int p1), .val (.int p2), .val (.int p3), .val (.int p4), .val (.int p5), .val (.int ((p0 &&& (2147483647 : Int32)) % (6 : Int32))), .val (.int ((p5 &&& (3 : Int32)) % (3 : Int32))), .val (.int (((((p5).toUInt32 >>> ((2 : Int32) &&& 31).toUInt32).toInt32) &&& (3 : Int32)) % (3 : Int32))), .val (.int ((p1 &&& (255 : Int32))).toUInt32.toUInt16.toUInt32.toInt32), .val (.int ((p2 &&& (255 : Int32))).toUInt32.toUInt16.toUInt32.toInt32), .val (.int ((p1 &&& (255 : Int32))).toUInt32.toUInt16.toUInt32.toInt32), .val (.int ((p2 &&& (255 : Int32))).toUInt32.toUInt16.toUInt32.toInt32), .unset, .unset, .unset, .unset, .unset]) rfl k)))) ?_
      exact own_tail (p0) (p1) (p2) (p3) (p4) (p5) (((p0 &&& (2147483647 : Int32)) % (6 : Int32))) (((p5 &&& (3 : Int32)) % (3 : Int32))) ((((((p5).toUInt32 >>> ((2 : Int32) &&& 31).toUInt32).toInt32) &&& (3 : Int32)) % (3 : Int32))) (((p1 &&& (255 : Int32))).toUInt32.toUInt16.toUInt32.toInt32) (((p2 &&& (255 : Int32))).toUInt32.toUInt16.toUInt32.toInt32) (((p1 &&& (255 : Int32))).toUInt32.toUInt16.toUInt32.toInt32) (((p2 &&& (255 : Int32))).toUInt32.toUInt16.toUInt32.toInt32) (u0) (u1) (u2) (u3) (u4) (u5) (cs) hx hw hby hml hret hlk hZ hown X0 e0 N0 Z0 hS0 hk0 SK0 SK1 SK2 SK3 SK4 SK5 PC hCH hcs (own_r3 _) (own_r3 _) (own_m _) (own_m _) (own_m _) (own_m _) nu0 nu1 nu2 nu3 nu5
theorem own_fld {s : State} {args : Array Value} {t : Term} {C n d : String} {a : Addr} {v : Int32} (ev : t.eval args s none [] s = some (.ref a)) (h : (Cond.eq (.field t C n d) (.int v)).value args s none s [] = some true) : Fld s s.heap a C n d (.int v) := by
  refine Fld.start ?_
  have e := fld_at (C := C) (n := n) (dd := d) (first := s) (o := none) (idx := []) (args := args) ev
  have e2 : (Term.int v).eval args s none [] s = some (.int v) := rfl
  cases hf : s.fieldOf? a C n d with
  | none => simp [Cond.value, e, hf] at h
  | some u =>
    rw [hf] at e
    cases u <;> simp [Cond.value, e, e2] at h
    rw [h]
theorem own_fldR {s : State} {args : Array Value} {t : Term} {C n d : String} {a b : Addr} (ev : t.eval args s none [] s = some (.ref a)) (h : (Term.field t C n d).eval args s none [] s = some (.ref b)) : Fld s s.heap a C n d (.ref b) := by
  refine Fld.start ?_
  have e := fld_at (C := C) (n := n) (dd := d) (first := s) (o := none) (idx := []) (args := args) ev
  rw [← e]
  exact h
theorem own_len {s : State} {args : Array Value} {t : Term} {a : Addr} {cl : Cell} {n : Int32} {ty : FieldType} (A : Arr s s.heap a cl ty) (ev : t.eval args s none [] s = some (.ref a)) (hl : (Cond.eq (.length t) (.int n)).value args s none s [] = some true) : cl.slots.size < 2 ^ 31 ∧ cl.slots.size.toInt32 = n := by
  have ha : s.arrayAt? a = some cl := Arr.fin (Vm.Alike.refl _) A
  by_cases h : cl.slots.size < 2 ^ 31
  · have e1 := len_f (o := none) (first := s) (idx := []) (args := args) ev ha h
    have e2 : (Term.int n).eval args s none [] s = some (.int n) := rfl
    exact ⟨h, gotT (Cond.eq_ints e1 e2) hl⟩
  · exfalso
    simp [Cond.value, Term.eval, ev, ha, h] at hl
theorem own_el {s : State} {args : Array Value} {t : Term} {a : Addr} {cl : Cell} {j n : Int32} {ty : FieldType} (A : Arr s s.heap a cl ty) (ev : t.eval args s none [] s = some (.ref a)) (hj : ¬ j < 0) (h : (Cond.eq (.elem t (.int j)) (.int n)).value args s none s [] = some true) : cl.slots[j.toNatClampNeg]? = some (.int n) := by
  have ha : s.arrayAt? a = some cl := Arr.fin (Vm.Alike.refl _) A
  have e2 : (Term.int n).eval args s none [] s = some (.int n) := rfl
  have e1 := elem_f (o := none) (first := s) (idx := []) (args := args) (a := .int j) (j := j) ev rfl ha hj
  cases hf : cl.slots[j.toNatClampNeg]? with
  | none =>
    rw [hf] at e1
    simp [Cond.value, e1] at h
  | some u =>
    rw [hf] at e1
    cases u <;> simp [Cond.value, e1, e2] at h
    rw [h]
set_option maxRecDepth 65536 in
set_option maxHeartbeats 40000000 in
theorem comes_1 {Post : Tables → Env → Array Value → State → Outcome → State → Prop} (hpost : ∀ tb e args s v u, (limb_1_1.after args s (.returned v) u = true ∧ limb_1_2.after args s (.returned v) u = true ∧ True) → ReturnedEndW s (.returned v) u (Jvm.fieldLocs frame_1_writes args s ++ Jvm.arrayLocs frame_1_arrays args s ++ Jvm.staticLocs frame_1_statics s) 24 1152 → Post tb e args s (.returned v) u) :
    ArmFor flags0 classFile x code maxLocals ret World_1 tables_1 room_1 Calls_1 rest_1 Pre_1 Post := by
  intro l hfl _ _ p e ha hc hk s m args below hf hA hF happ hP
  obtain ⟨hcalls, hrest, hpre⟩ := hP
  obtain ⟨-, -, -, hnamed, -, -, -, hat⟩ := (Spec.applies_iff hf).mp happ
  obtain ⟨hg, hn⟩ := and_e (Cond.before_iff.mp (show (Jvm.Cond.and given_1 narrow_1).before args s = true from hpre))
  obtain ⟨hg1, hg2⟩ := and_e hg
  obtain ⟨hg21, hg22⟩ := and_e hg2
  obtain ⟨hg221, hg222⟩ := and_e hg22
  obtain ⟨hg2221, hg2222⟩ := and_e hg222
  obtain ⟨hg22221, hg22222⟩ := and_e hg2222
  obtain ⟨hg222221, hg222222⟩ := and_e hg22222
  obtain ⟨hn1, hn2⟩ := and_e hn
  obtain ⟨hn21, hn22⟩ := and_e hn2
  obtain ⟨hn221, hn222⟩ := and_e hn22
  obtain ⟨hn2221, hn2222⟩ := and_e hn222
  obtain ⟨hn22221, hn22222⟩ := and_e hn2222
  obtain ⟨hn222221, hn222222⟩ := and_e hn22222
  obtain ⟨hn2222221, hn2222222⟩ := and_e hn222222
  obtain ⟨hn22222221, hn22222222⟩ := and_e hn2222222
  obtain ⟨hn222222221, hn222222222⟩ := and_e hn22222222
  obtain ⟨hn2222222221, hn2222222222⟩ := and_e hn222222222
  obtain ⟨hn22222222221, hn22222222222⟩ := and_e hn2222222222
  obtain ⟨w0, w1, w2, w3, w4, w5, rfl⟩ : ∃ w0 w1 w2 w3 w4 w5 : Value, args = #[w0, w1, w2, w3, w4, w5] := by
    have hs : args.size = 6 := by simpa [Cond.value, given_1] using hg1
    obtain ⟨L⟩ := args
    match L, hs with
    | [w0, w1, w2, w3, w4, w5], _ => exact ⟨w0, w1, w2, w3, w4, w5, rfl⟩
  have hw := fun d (hd : d ∈ tables_1) => atoms_spec (ws := Jvm.Cond.code x code maxLocals ret :: tables_1) hat d (List.mem_cons_of_mem _ hd)
  have hfit : Fit s := fun {y c} hc i hi => by
    obtain ⟨ha, rfl⟩ := Array.getElem?_eq_some_iff.mp hc
    have q := List.all_eq_true.mp ((Array.all_eq_true_iff_forall_mem.mp hF) _ (Array.getElem_mem ha)) i (List.mem_range.mpr hi)
    simpa [Array.getElem?_eq_getElem hi] using q
  obtain ⟨hsets, hown0⟩ := atoms_of _ (rest_1_c_eq ▸ (show rest_1_c.before _ s = true from hrest))
  have hr0 := Cond.before_iff.mp hown0
  obtain ⟨i0, ei0⟩ := is_v hg21
  obtain rfl : w0 = (.int i0) := Option.some.inj ei0
  obtain ⟨i1, ei1⟩ := is_v hg221
  obtain rfl : w1 = (.int i1) := Option.some.inj ei1
  obtain ⟨i2, ei2⟩ := is_v hg2221
  obtain rfl : w2 = (.int i2) := Option.some.inj ei2
  obtain ⟨i3, ei3⟩ := is_v hg22221
  obtain rfl : w3 = (.int i3) := Option.some.inj ei3
  obtain ⟨i4, ei4⟩ := is_v hg222221
  obtain rfl : w4 = (.int i4) := Option.some.inj ei4
  obtain ⟨i5, ei5⟩ := is_v hg222222
  obtain rfl : w5 = (.int i5) := Option.some.inj ei5
  obtain ⟨u0, eu0⟩ := exa_v hn1
  have SK0 := Sta.start eu0 (Or.inr ⟨(hw _ (List.mem_of_getElem? (i := 34) rfl)), (hw _ (List.mem_of_getElem? (i := 35) rfl))⟩)
  have O0 := own_fld eu0 hn221
  obtain ⟨u1, eu1⟩ := exa_v hn2222221
  have SK1 := Sta.start eu1 (Or.inr ⟨(hw _ (List.mem_of_getElem? (i := 34) rfl)), (hw _ (List.mem_of_getElem? (i := 82) rfl))⟩)
  have O1 := own_fld eu1 hn22222221
  obtain ⟨u2, eu2⟩ := exa_v hn222222221
  have SK2 := Sta.start eu2 (Or.inr ⟨(hw _ (List.mem_of_getElem? (i := 34) rfl)), (hw _ (List.mem_of_getElem? (i := 84) rfl))⟩)
  have O2 := own_fld eu2 hn2222222221
  obtain ⟨u3, eu3⟩ := exa_v hn22221
  have SK3 := Sta.start eu3 (Or.inr ⟨(hw _ (List.mem_of_getElem? (i := 34) rfl)), (hw _ (List.mem_of_getElem? (i := 80) rfl))⟩)
  have O3 := own_fld eu3 hn222221
  obtain ⟨u4, eu4⟩ := exa_v hn21
  have SK4 := Sta.start eu4 (Or.inr ⟨(hw _ (List.mem_of_getElem? (i := 34) rfl)), (hw _ (List.mem_of_getElem? (i := 61) rfl))⟩)
  have O4 := own_fld eu4 hn2221
  obtain ⟨u5, eu5⟩ := exa_v hn22222222221
  have SK5 := Sta.start eu5 (Or.inr ⟨(hw _ (List.mem_of_getElem? (i := 34) rfl)), (hw _ (List.mem_of_getElem? (i := 91) rfl))⟩)
  have O5 := own_fld eu5 hn22222222222
  have nu0 : u0 ≠ u4 := Fld.ne O0 O4 (by decide)
  have nu1 : u1 ≠ u4 := Fld.ne O1 O4 (by decide)
  have nu2 : u2 ≠ u4 := Fld.ne O2 O4 (by decide)
  have nu3 : u3 ≠ u4 := Fld.ne O3 O4 (by decide)
  have nu5 : u5 ≠ u4 := Fld.ne O5 O4 (by decide)
  obtain ⟨cs, ecs⟩ := is_v (Cond.before_iff.mp (hsets _ (List.mem_of_getElem? (i := 1) rfl)))
  have PC := Sta.start ecs (Or.inl (hsets _ (List.mem_of_getElem? (i := 0) rfl)))
  have hcs : ¬ cs = (0 : Int32) := gotF (Cond.eq_ints ecs rfl) (not_v (Cond.before_iff.mp (hsets _ (List.mem_of_getElem? (i := 2) rfl))))
  have hCH0 : CHv s consts_1 s.vm s.heap := CHv.start (own_EW hw) hcalls.1 (hsets _ (List.mem_of_getElem? (i := 2) rfl)) (hw _ (List.mem_of_getElem? (i := 20) rfl)) (hw _ (List.mem_of_getElem? (i := 6) rfl))
  obtain ⟨n, o, h1, h2, h3, _, L, rfl, ⟨rfl, N⟩, hq⟩ := rm_law l s _ hw tables_1 i0 i1 i2 i3 i4 i5 u0 u1 u2 u3 u4 u5 cs s.heap s.heap.size (Nat.le_refl _) SK0 SK1 SK2 SK3 SK4 SK5 PC hcs nu0 nu1 nu2 nu3 nu5 p e ha hc hk s m _ below hf ((Spec.applies_iff_loose hf).mp happ).1 ⟨rfl, State.Warmed39.refl s, rfl, hCH0⟩ trivial
  refine ⟨n, _, h1, h2, h3, hpost _ _ _ _ _ _ ⟨Cond.after_iff.mpr rfl, Cond.after_iff.mpr (eq_i res_at (Term.int_eval (1)) rfl), trivial⟩ ⟨hq.1, hq.2.1, hq.2.2.1, (hq.2.2.2.sift fun y hy => Or.inr (N y hy)).mono (by decide) (by decide)⟩⟩
theorem main_1_1 : Claimed_1_1 := comes_1 fun _ _ _ _ _ _ h hF => ⟨h.1, hF⟩
theorem main_1_2 : Claimed_1_2 := comes_1 fun _ _ _ _ _ _ h hF => ⟨h.2.1, hF⟩
end Jvm.Pilot.@@N@@
namespace Jvm.Pilot.@@N@@
open Jvm Jvm.ClassFile Sem Op Lib Jvm.Free Jvm.Stand Jvm.Pilot.@@N@@.Jvm.D
/-! MADE BY PROGRAM (witnessworld.py) out of the Statement's table words and the real class files: 23 classes; the members and pool entries that the words name. The judged class is class 1, her method 3. -/
namespace start1
open Jvm.ClassFile
def u (s : String) : CpInfo := .utf8 (stringToUtf16 s)
/-- a pool by its gaps: so many unusable entries, then the entry; so many at the end -/
def gap : Nat → List CpInfo → List CpInfo
  | 0, r => r
  | n + 1, r => .unusable :: gap n r
def poolList (es : List (Nat × CpInfo)) (last : Nat) : List CpInfo := es.foldr (fun e r => gap e.1 (e.2 :: r)) (gap last [])
def pool (es : List (Nat × CpInfo)) (last : Nat) : Array CpInfo := ⟨poolList es last⟩
def fileOf (pool : Array CpInfo) (this : Nat) (attrs : Array Attribute := #[]) (ms : Array MethodInfo := #[]) (fl : Nat := 33) (sup : Nat := 0) (ifs : Array Nat := #[]) (fds : Array FieldInfo := #[]) : ClassFile where
  minorVersion := 0
  majorVersion := 65
  constantPool := pool
  accessFlags := fl
  thisClass := this
  superClass := sup
  interfaces := ifs
  fields := fds
  methods := ms
  attributes := attrs
def plain (name : String) (sup : Option ClassId) : Class where
  name := name
  kind := .ordinary
  loader := none
  accessFlags := 33
  super := sup
  interfaces := #[]
  cf := none
  fields := #[]
  methods := #[]
  instanceTypes := #[]
  staticTypes := #[]
  resolved := #[]
  callSites := []
  init := .initialized
  statics := none
  mirror := none

def pool0 : Array CpInfo := pool [(5, u "<init>"), (0, u "()V"), (1, .class_ 10), (1, u "java/lang/Object")] 113

def k0c0 : Code := { maxStack := 0, maxLocals := 1, code := object_method_1_code, exceptionTable := #[], attributes := #[] }
def k0m0 : Method := { name := "<init>", desc := "()V", sig := { parameters := [], returnType := none }, accessFlags := 1, code := some k0c0 }
/-- java/lang/Object -/
def k0 : Class := { plain "java/lang/Object" none with
  accessFlags := 33
  interfaces := #[]
  cf := some (fileOf pool0 8 #[] #[{ accessFlags := 1, nameIndex := 5, descriptorIndex := 6, attributes := #[] }] 33 0 #[] #[])
  fields := #[]
  methods := #[k0m0]
  instanceTypes := #[]
  staticTypes := #[]
  resolved := Array.replicate 124 none
  statics := none }

def pool1 : Array CpInfo := pool [(2, .class_ 4), (1, u "java/lang/Object"), (0, u "<init>"), (0, u "()V"), (0, .fieldref 8 9), (0, .class_ 10), (0, .nameAndType 11 12), (0, u "com/example/query_to_table/querytotable/sql/Token$Kind"), (0, u "WORD"), (0, u "Lcom/example/query_to_table/querytotable/sql/Token$Kind;"), (0, .fieldref 8 14), (0, .nameAndType 15 12), (0, u "QUOTED_NAME"), (0, .fieldref 8 17), (0, .nameAndType 18 12), (0, u "STRING"), (0, .fieldref 8 20), (0, .nameAndType 21 12), (0, u "NUMBER"), (0, .fieldref 8 23), (0, .nameAndType 24 12), (0, u "SYMBOL"), (0, .fieldref 8 26), (0, .nameAndType 27 12), (0, u "UNCLOSED"), (0, .class_ 29), (0, u "java/lang/String"), (0, .methodref 28 31), (0, .nameAndType 5 32), (0, u "([C)V"), (0, .integer 2147483647), (0, .methodref 35 36), (0, .class_ 37), (0, .nameAndType 38 39), (0, u "com/example/query_to_table/querytotable/sql/TokenIsSymbolPinLaw"), (0, u "mk"), (0, u "(ICC)Ljava/lang/String;"), (0, .class_ 41), (0, u "com/example/query_to_table/querytotable/sql/Token"), (0, .methodref 35 43), (0, .nameAndType 44 45), (0, u "kindOf"), (0, u "(I)Lcom/example/query_to_table/querytotable/sql/Token$Kind;"), (0, .methodref 40 47), (0, .nameAndType 5 48), (0, u "(Lcom/example/query_to_table/querytotable/sql/Token$Kind;Ljava/lang/String;III)V"), (0, .methodref 40 50), (0, .nameAndType 51 52), (0, u "isSymbol"), (0, u "(Ljava/lang/String;)Z"), (3, u "law"), (0, u "(IIIIII)Z")] 4

def k1m0 : Method := { name := "<init>", desc := "()V", sig := { parameters := [], returnType := none }, accessFlags := 1, code := none }
def k1c1 : Code := { maxStack := 2, maxLocals := 1, code := method_2_code, exceptionTable := #[], attributes := #[] }
def k1m1 : Method := { name := "kindOf", desc := "(I)Lcom/example/query_to_table/querytotable/sql/Token$Kind;", sig := { parameters := [.int], returnType := some (.object "com/example/query_to_table/querytotable/sql/Token$Kind") }, accessFlags := 10, code := some k1c1 }
def k1c2 : Code := { maxStack := 6, maxLocals := 3, code := method_3_code, exceptionTable := #[], attributes := #[] }
def k1m2 : Method := { name := "mk", desc := "(ICC)Ljava/lang/String;", sig := { parameters := [.int, .char, .char], returnType := some (.object "java/lang/String") }, accessFlags := 10, code := some k1c2 }
def k1c3 : Code := { maxStack := 7, maxLocals := 18, code := code, exceptionTable := #[], attributes := #[] }
def k1m3 : Method := { name := "law", desc := "(IIIIII)Z", sig := { parameters := [.int, .int, .int, .int, .int, .int], returnType := some .boolean }, accessFlags := 9, code := some k1c3 }
/-- com/example/query_to_table/querytotable/sql/TokenIsSymbolPinLaw -/
def k1 : Class := { plain "com/example/query_to_table/querytotable/sql/TokenIsSymbolPinLaw" (some 0) with
  accessFlags := 49
  interfaces := #[]
  cf := some (fileOf pool1 35 #[] #[{ accessFlags := 1, nameIndex := 5, descriptorIndex := 6, attributes := #[] }, { accessFlags := 10, nameIndex := 44, descriptorIndex := 45, attributes := #[] }, { accessFlags := 10, nameIndex := 38, descriptorIndex := 39, attributes := #[] }, { accessFlags := 9, nameIndex := 56, descriptorIndex := 57, attributes := #[] }] 49 2 #[] #[])
  fields := #[]
  methods := #[k1m0, k1m1, k1m2, k1m3]
  instanceTypes := #[]
  staticTypes := #[]
  resolved := Array.replicate 62 none
  statics := none }

def pool2 : Array CpInfo := pool [(1, .class_ 2), (0, u "java/io/Serializable"), (0, .class_ 4), (0, u "java/lang/Object")] 2

/-- java/io/Serializable -/
def k2 : Class := { plain "java/io/Serializable" (some 0) with
  accessFlags := 1537
  interfaces := #[]
  cf := some (fileOf pool2 1 #[] #[] 1537 3 #[] #[])
  fields := #[]
  methods := #[]
  instanceTypes := #[]
  staticTypes := #[]
  resolved := Array.replicate 7 none
  statics := none }

def pool3 : Array CpInfo := pool [(1, .class_ 2), (0, u "java/lang/Comparable"), (0, .class_ 4), (0, u "java/lang/Object")] 7

/-- java/lang/Comparable -/
def k3 : Class := { plain "java/lang/Comparable" (some 0) with
  accessFlags := 1537
  interfaces := #[]
  cf := some (fileOf pool3 1 #[] #[] 1537 3 #[] #[])
  fields := #[]
  methods := #[]
  instanceTypes := #[]
  staticTypes := #[]
  resolved := Array.replicate 12 none
  statics := none }

def pool4 : Array CpInfo := pool [(2, .class_ 4), (1, u "java/lang/CharSequence"), (42, .class_ 48), (0, u "java/lang/CharSequence$1CodePointIterator"), (10, .class_ 60), (0, u "java/lang/CharSequence$1CharIterator"), (5, .class_ 67), (0, u "java/lang/Object")] 63

/-- java/lang/CharSequence -/
def k4 : Class := { plain "java/lang/CharSequence" (some 0) with
  accessFlags := 1537
  interfaces := #[]
  cf := some (fileOf pool4 2 #[.nestMembers #[47, 59]] #[] 1537 66 #[] #[])
  fields := #[]
  methods := #[]
  instanceTypes := #[]
  staticTypes := #[]
  resolved := Array.replicate 131 none
  statics := none }

def pool5 : Array CpInfo := pool [(1, .class_ 2), (0, u "java/lang/constant/Constable"), (0, .class_ 4), (0, u "java/lang/Object")] 6

/-- java/lang/constant/Constable -/
def k5 : Class := { plain "java/lang/constant/Constable" (some 0) with
  accessFlags := 1537
  interfaces := #[]
  cf := some (fileOf pool5 1 #[] #[] 1537 3 #[] #[])
  fields := #[]
  methods := #[]
  instanceTypes := #[]
  staticTypes := #[]
  resolved := Array.replicate 11 none
  statics := none }

def pool6 : Array CpInfo := pool [(1, .class_ 2), (0, u "java/lang/constant/ConstantDesc"), (0, .class_ 4), (0, u "java/lang/Object")] 32

/-- java/lang/constant/ConstantDesc -/
def k6 : Class := { plain "java/lang/constant/ConstantDesc" (some 0) with
  accessFlags := 1537
  interfaces := #[]
  cf := some (fileOf pool6 1 #[] #[] 1537 3 #[] #[])
  fields := #[]
  methods := #[]
  instanceTypes := #[]
  staticTypes := #[]
  resolved := Array.replicate 37 none
  statics := none }

def pool7 : Array CpInfo := pool [(1, .methodref 2 3), (0, .class_ 4), (0, .nameAndType 5 6), (0, u "java/lang/Object"), (0, u "<init>"), (0, u "()V"), (0, .string 8), (0, u ""), (0, .fieldref 10 11), (0, .class_ 12), (0, .nameAndType 13 14), (0, u "java/lang/String"), (0, u "value"), (0, u "[B"), (0, .fieldref 10 16), (0, .nameAndType 17 18), (0, u "coder"), (0, u "B"), (2, u "hash"), (0, u "I"), (2, u "hashIsZero"), (0, u "Z"), (0, .methodref 10 28), (0, .nameAndType 5 29), (0, u "([CIILjava/lang/Void;)V"), (8, .fieldref 10 39), (0, .nameAndType 40 26), (0, u "COMPACT_STRINGS"), (1, .class_ 44), (1, u "java/lang/StringUTF16"), (0, u "compress"), (1, .methodref 42 48), (0, .nameAndType 49 50), (0, u "coderFromArrayLen"), (0, u "([BI)B"), (56, .class_ 109), (1, u "java/lang/StringLatin1"), (67, .methodref 42 178), (0, .nameAndType 45 179), (0, u "([CII)[B"), (361, .methodref 107 542), (0, .nameAndType 543 544), (0, u "equals"), (0, u "([B[B)Z"), (28, u "(Ljava/lang/Object;)Z"), (1, .class_ 576), (0, u "java/lang/CharSequence"), (22, u "CASE_INSENSITIVE_ORDER"), (0, u "Ljava/util/Comparator;"), (409, u "([C)V"), (90, u "serialPersistentFields"), (0, u "[Ljava/io/ObjectStreamField;"), (0, .class_ 1104), (0, u "java/lang/String$CaseInsensitiveComparator"), (1, .class_ 1107), (0, u "java/io/Serializable"), (0, .class_ 1109), (0, u "java/lang/Comparable"), (0, .class_ 1111), (0, u "java/lang/constant/Constable"), (0, .class_ 1113), (0, u "java/lang/constant/ConstantDesc"), (2, u "serialVersionUID"), (0, u "J"), (3, u "REPL"), (0, u "C"), (2, u "LATIN1"), (1, u "UTF16")] 323

def k7m0 : Method := { name := "<init>", desc := "()V", sig := { parameters := [], returnType := none }, accessFlags := 1, code := none }
def k7c1 : Code := { maxStack := 5, maxLocals := 2, code := jdk_42_method_3_code, exceptionTable := #[], attributes := #[] }
def k7m1 : Method := { name := "<init>", desc := "([C)V", sig := { parameters := [(.array .char)], returnType := none }, accessFlags := 1, code := some k7c1 }
def k7c2 : Code := { maxStack := 2, maxLocals := 3, code := jdk_42_method_66_code, exceptionTable := #[], attributes := #[] }
def k7m2 : Method := { name := "equals", desc := "(Ljava/lang/Object;)Z", sig := { parameters := [(.object "java/lang/Object")], returnType := some .boolean }, accessFlags := 1, code := some k7c2 }
def k7c3 : Code := { maxStack := 4, maxLocals := 6, code := jdk_42_method_149_code, exceptionTable := #[], attributes := #[] }
def k7m3 : Method := { name := "<init>", desc := "([CIILjava/lang/Void;)V", sig := { parameters := [(.array .char), .int, .int, (.object "java/lang/Void")], returnType := none }, accessFlags := 2, code := some k7c3 }
/-- java/lang/String -/
def k7 : Class := { plain "java/lang/String" (some 0) with
  accessFlags := 49
  interfaces := #[2, 3, 4, 5, 6]
  cf := some (fileOf pool7 10 #[.nestMembers #[1103]] #[{ accessFlags := 1, nameIndex := 5, descriptorIndex := 6, attributes := #[] }, { accessFlags := 1, nameIndex := 5, descriptorIndex := 1010, attributes := #[] }, { accessFlags := 1, nameIndex := 543, descriptorIndex := 573, attributes := #[] }, { accessFlags := 2, nameIndex := 5, descriptorIndex := 29, attributes := #[] }] 49 2 #[1106, 1108, 575, 1110, 1112] #[{ accessFlags := 18, nameIndex := 13, descriptorIndex := 14, attributes := #[] }, { accessFlags := 18, nameIndex := 17, descriptorIndex := 18, attributes := #[] }, { accessFlags := 2, nameIndex := 21, descriptorIndex := 22, attributes := #[] }, { accessFlags := 2, nameIndex := 25, descriptorIndex := 26, attributes := #[] }, { accessFlags := 26, nameIndex := 1116, descriptorIndex := 1117, attributes := #[] }, { accessFlags := 24, nameIndex := 40, descriptorIndex := 26, attributes := #[] }, { accessFlags := 26, nameIndex := 1101, descriptorIndex := 1102, attributes := #[] }, { accessFlags := 26, nameIndex := 1121, descriptorIndex := 1122, attributes := #[] }, { accessFlags := 25, nameIndex := 599, descriptorIndex := 600, attributes := #[] }, { accessFlags := 24, nameIndex := 1125, descriptorIndex := 18, attributes := #[] }, { accessFlags := 24, nameIndex := 1127, descriptorIndex := 18, attributes := #[] }])
  fields := #[{ name := "value", type := (.array .byte), accessFlags := 18, slot := 0, constantValue := 0 }, { name := "coder", type := .byte, accessFlags := 18, slot := 1, constantValue := 0 }, { name := "hash", type := .int, accessFlags := 2, slot := 2, constantValue := 0 }, { name := "hashIsZero", type := .boolean, accessFlags := 2, slot := 3, constantValue := 0 }, { name := "serialVersionUID", type := .long, accessFlags := 26, slot := 0, constantValue := 0 }, { name := "COMPACT_STRINGS", type := .boolean, accessFlags := 24, slot := 1, constantValue := 0 }, { name := "serialPersistentFields", type := (.array (.object "java/io/ObjectStreamField")), accessFlags := 26, slot := 2, constantValue := 0 }, { name := "REPL", type := .char, accessFlags := 26, slot := 3, constantValue := 0 }, { name := "CASE_INSENSITIVE_ORDER", type := (.object "java/util/Comparator"), accessFlags := 25, slot := 4, constantValue := 0 }, { name := "LATIN1", type := .byte, accessFlags := 24, slot := 5, constantValue := 0 }, { name := "UTF16", type := .byte, accessFlags := 24, slot := 6, constantValue := 0 }]
  methods := #[k7m0, k7m1, k7m2, k7m3]
  instanceTypes := #[(.array .byte), .byte, .int, .boolean]
  staticTypes := #[.long, .boolean, (.array (.object "java/io/ObjectStreamField")), .char, (.object "java/util/Comparator"), .byte, .byte]
  resolved := Array.replicate 1451 none
  statics := some 0 }

def pool8 : Array CpInfo := pool [(1, .methodref 2 3), (0, .class_ 4), (0, .nameAndType 5 6), (0, u "java/lang/Object"), (0, u "<init>"), (0, u "()V"), (0, .class_ 8), (0, u "java/lang/Record")] 13

def k8c0 : Code := { maxStack := 1, maxLocals := 1, code := jdk_30_method_1_code, exceptionTable := #[], attributes := #[] }
def k8m0 : Method := { name := "<init>", desc := "()V", sig := { parameters := [], returnType := none }, accessFlags := 4, code := some k8c0 }
/-- java/lang/Record -/
def k8 : Class := { plain "java/lang/Record" (some 0) with
  accessFlags := 1057
  interfaces := #[]
  cf := some (fileOf pool8 7 #[] #[{ accessFlags := 4, nameIndex := 5, descriptorIndex := 6, attributes := #[] }] 1057 2 #[] #[])
  fields := #[]
  methods := #[k8m0]
  instanceTypes := #[]
  staticTypes := #[]
  resolved := Array.replicate 22 none
  statics := none }

def pool9 : Array CpInfo := pool [(1, .methodref 2 3), (0, .class_ 4), (0, .nameAndType 5 6), (0, u "java/lang/Record"), (0, u "<init>"), (0, u "()V"), (0, .fieldref 8 9), (0, .class_ 10), (0, .nameAndType 11 12), (0, u "com/example/query_to_table/querytotable/sql/Token"), (0, u "kind"), (0, u "Lcom/example/query_to_table/querytotable/sql/Token$Kind;"), (0, .fieldref 8 14), (0, .nameAndType 15 16), (0, u "text"), (0, u "Ljava/lang/String;"), (0, .fieldref 8 18), (0, .nameAndType 19 20), (0, u "line"), (0, u "I"), (0, .fieldref 8 22), (0, .nameAndType 23 20), (0, u "start"), (0, .fieldref 8 25), (0, .nameAndType 26 20), (0, u "end"), (1, .class_ 30), (1, u "com/example/query_to_table/querytotable/sql/Token$Kind"), (2, .class_ 35), (1, u "java/lang/String"), (1, u "(Ljava/lang/String;)Z"), (0, .fieldref 28 39), (0, .nameAndType 40 12), (0, u "SYMBOL"), (0, .methodref 33 42), (0, .nameAndType 43 44), (0, u "equals"), (0, u "(Ljava/lang/Object;)Z"), (11, u "(Lcom/example/query_to_table/querytotable/sql/Token$Kind;Ljava/lang/String;III)V"), (5, u "isSymbol")] 29

def k9c0 : Code := { maxStack := 2, maxLocals := 6, code := prog_22_method_1_code, exceptionTable := #[], attributes := #[] }
def k9m0 : Method := { name := "<init>", desc := "(Lcom/example/query_to_table/querytotable/sql/Token$Kind;Ljava/lang/String;III)V", sig := { parameters := [(.object "com/example/query_to_table/querytotable/sql/Token$Kind"), (.object "java/lang/String"), .int, .int, .int], returnType := none }, accessFlags := 1, code := some k9c0 }
def k9c1 : Code := { maxStack := 2, maxLocals := 2, code := prog_22_method_3_code, exceptionTable := #[], attributes := #[] }
def k9m1 : Method := { name := "isSymbol", desc := "(Ljava/lang/String;)Z", sig := { parameters := [(.object "java/lang/String")], returnType := some .boolean }, accessFlags := 1, code := some k9c1 }
/-- com/example/query_to_table/querytotable/sql/Token -/
def k9 : Class := { plain "com/example/query_to_table/querytotable/sql/Token" (some 8) with
  accessFlags := 49
  interfaces := #[]
  cf := some (fileOf pool9 8 #[.nestMembers #[28]] #[{ accessFlags := 1, nameIndex := 5, descriptorIndex := 56, attributes := #[] }, { accessFlags := 1, nameIndex := 62, descriptorIndex := 37, attributes := #[] }] 49 2 #[] #[{ accessFlags := 18, nameIndex := 11, descriptorIndex := 12, attributes := #[] }, { accessFlags := 18, nameIndex := 15, descriptorIndex := 16, attributes := #[] }, { accessFlags := 18, nameIndex := 19, descriptorIndex := 20, attributes := #[] }, { accessFlags := 18, nameIndex := 23, descriptorIndex := 20, attributes := #[] }, { accessFlags := 18, nameIndex := 26, descriptorIndex := 20, attributes := #[] }])
  fields := #[{ name := "kind", type := (.object "com/example/query_to_table/querytotable/sql/Token$Kind"), accessFlags := 18, slot := 0, constantValue := 0 }, { name := "text", type := (.object "java/lang/String"), accessFlags := 18, slot := 1, constantValue := 0 }, { name := "line", type := .int, accessFlags := 18, slot := 2, constantValue := 0 }, { name := "start", type := .int, accessFlags := 18, slot := 3, constantValue := 0 }, { name := "end", type := .int, accessFlags := 18, slot := 4, constantValue := 0 }]
  methods := #[k9m0, k9m1]
  instanceTypes := #[(.object "com/example/query_to_table/querytotable/sql/Token$Kind"), (.object "java/lang/String"), .int, .int, .int]
  staticTypes := #[]
  resolved := Array.replicate 92 none
  statics := none }

def pool10 : Array CpInfo := pool [(2, .class_ 4), (1, u "java/lang/Enum"), (0, u "name"), (0, u "Ljava/lang/String;"), (2, u "ordinal"), (0, u "I"), (1, .class_ 14), (1, u "java/lang/Object"), (4, u "hash"), (86, .class_ 108), (1, u "java/lang/Enum$EnumDesc"), (2, .class_ 112), (0, u "java/lang/constant/Constable"), (0, .class_ 114), (0, u "java/lang/Comparable"), (0, .class_ 116), (0, u "java/io/Serializable")] 87

/-- java/lang/Enum -/
def k10 : Class := { plain "java/lang/Enum" (some 0) with
  accessFlags := 1057
  interfaces := #[5, 3, 2]
  cf := some (fileOf pool10 2 #[.nestMembers #[106]] #[] 1057 12 #[111, 113, 115] #[{ accessFlags := 18, nameIndex := 5, descriptorIndex := 6, attributes := #[] }, { accessFlags := 18, nameIndex := 9, descriptorIndex := 10, attributes := #[] }, { accessFlags := 2, nameIndex := 19, descriptorIndex := 10, attributes := #[] }])
  fields := #[{ name := "name", type := (.object "java/lang/String"), accessFlags := 18, slot := 0, constantValue := 0 }, { name := "ordinal", type := .int, accessFlags := 18, slot := 1, constantValue := 0 }, { name := "hash", type := .int, accessFlags := 2, slot := 2, constantValue := 0 }]
  methods := #[]
  instanceTypes := #[(.object "java/lang/String"), .int, .int]
  staticTypes := #[]
  resolved := Array.replicate 204 none
  statics := none }

def pool11 : Array CpInfo := pool [(1, .class_ 2), (0, u "com/example/query_to_table/querytotable/sql/Token$Kind"), (2, u "WORD"), (0, u "Lcom/example/query_to_table/querytotable/sql/Token$Kind;"), (2, u "QUOTED_NAME"), (2, u "STRING"), (2, u "NUMBER"), (2, u "SYMBOL"), (2, u "UNCLOSED"), (2, u "$VALUES"), (0, u "[Lcom/example/query_to_table/querytotable/sql/Token$Kind;"), (6, .class_ 34), (1, u "java/lang/Enum"), (29, .class_ 65), (0, u "com/example/query_to_table/querytotable/sql/Token")] 2

/-- com/example/query_to_table/querytotable/sql/Token$Kind -/
def k11 : Class := { plain "com/example/query_to_table/querytotable/sql/Token$Kind" (some 10) with
  accessFlags := 16433
  interfaces := #[]
  cf := some (fileOf pool11 1 #[.nestHost 64] #[] 16433 32 #[] #[{ accessFlags := 16409, nameIndex := 5, descriptorIndex := 6, attributes := #[] }, { accessFlags := 16409, nameIndex := 9, descriptorIndex := 6, attributes := #[] }, { accessFlags := 16409, nameIndex := 12, descriptorIndex := 6, attributes := #[] }, { accessFlags := 16409, nameIndex := 15, descriptorIndex := 6, attributes := #[] }, { accessFlags := 16409, nameIndex := 18, descriptorIndex := 6, attributes := #[] }, { accessFlags := 16409, nameIndex := 21, descriptorIndex := 6, attributes := #[] }, { accessFlags := 4122, nameIndex := 24, descriptorIndex := 25, attributes := #[] }])
  fields := #[{ name := "WORD", type := (.object "com/example/query_to_table/querytotable/sql/Token$Kind"), accessFlags := 16409, slot := 0, constantValue := 0 }, { name := "QUOTED_NAME", type := (.object "com/example/query_to_table/querytotable/sql/Token$Kind"), accessFlags := 16409, slot := 1, constantValue := 0 }, { name := "STRING", type := (.object "com/example/query_to_table/querytotable/sql/Token$Kind"), accessFlags := 16409, slot := 2, constantValue := 0 }, { name := "NUMBER", type := (.object "com/example/query_to_table/querytotable/sql/Token$Kind"), accessFlags := 16409, slot := 3, constantValue := 0 }, { name := "SYMBOL", type := (.object "com/example/query_to_table/querytotable/sql/Token$Kind"), accessFlags := 16409, slot := 4, constantValue := 0 }, { name := "UNCLOSED", type := (.object "com/example/query_to_table/querytotable/sql/Token$Kind"), accessFlags := 16409, slot := 5, constantValue := 0 }, { name := "$VALUES", type := (.array (.object "com/example/query_to_table/querytotable/sql/Token$Kind")), accessFlags := 4122, slot := 6, constantValue := 0 }]
  methods := #[]
  instanceTypes := #[(.object "java/lang/String"), .int, .int]
  staticTypes := #[(.object "com/example/query_to_table/querytotable/sql/Token$Kind"), (.object "com/example/query_to_table/querytotable/sql/Token$Kind"), (.object "com/example/query_to_table/querytotable/sql/Token$Kind"), (.object "com/example/query_to_table/querytotable/sql/Token$Kind"), (.object "com/example/query_to_table/querytotable/sql/Token$Kind"), (.object "com/example/query_to_table/querytotable/sql/Token$Kind"), (.array (.object "com/example/query_to_table/querytotable/sql/Token$Kind"))]
  resolved := Array.replicate 68 none
  statics := some 1 }

def pool12 : Array CpInfo := pool [(6, .class_ 8), (1, u "java/lang/Object"), (0, u "<init>"), (0, u "()V"), (1, .class_ 14), (1, u "java/lang/StringUTF16"), (31, u "$assertionsDisabled"), (0, u "Z"), (13, u "HI_BYTE_SHIFT"), (0, u "I"), (2, u "LO_BYTE_SHIFT"), (49, .methodref 12 116), (0, .nameAndType 117 118), (0, u "compress"), (0, u "([CI[BII)I"), (3, u "([CII)[B"), (138, u "coderFromArrayLen"), (0, u "([BI)B"), (106, .class_ 371), (1, u "java/lang/StringUTF16$LinesSpliterator"), (58, u "MAX_LENGTH"), (196, .class_ 628), (0, u "java/lang/StringUTF16$CodePointsSpliterator"), (0, .class_ 630), (0, u "java/lang/StringUTF16$CharsSpliterator")] 4

def k12m0 : Method := { name := "<init>", desc := "()V", sig := { parameters := [], returnType := none }, accessFlags := 0, code := none }
def k12c1 : Code := { maxStack := 2, maxLocals := 2, code := jdk_52_method_15_code, exceptionTable := #[], attributes := #[] }
def k12m1 : Method := { name := "coderFromArrayLen", desc := "([BI)B", sig := { parameters := [(.array .byte), .int], returnType := some .byte }, accessFlags := 8, code := some k12c1 }
def k12c2 : Code := { maxStack := 5, maxLocals := 6, code := jdk_52_method_16_code, exceptionTable := #[], attributes := #[] }
def k12m2 : Method := { name := "compress", desc := "([CII)[B", sig := { parameters := [(.array .char), .int, .int], returnType := some (.array .byte) }, accessFlags := 9, code := some k12c2 }
def k12c3 : Code := { maxStack := 3, maxLocals := 7, code := jdk_52_method_21_code, exceptionTable := #[], attributes := #[] }
def k12m3 : Method := { name := "compress", desc := "([CI[BII)I", sig := { parameters := [(.array .char), .int, (.array .byte), .int, .int], returnType := some .int }, accessFlags := 9, code := some k12c3 }
/-- java/lang/StringUTF16 -/
def k12 : Class := { plain "java/lang/StringUTF16" (some 0) with
  accessFlags := 48
  interfaces := #[]
  cf := some (fileOf pool12 12 #[.nestMembers #[627, 629, 369]] #[{ accessFlags := 0, nameIndex := 9, descriptorIndex := 10, attributes := #[] }, { accessFlags := 8, nameIndex := 261, descriptorIndex := 262, attributes := #[] }, { accessFlags := 9, nameIndex := 117, descriptorIndex := 122, attributes := #[] }, { accessFlags := 9, nameIndex := 117, descriptorIndex := 118, attributes := #[] }] 48 6 #[] #[{ accessFlags := 26, nameIndex := 61, descriptorIndex := 62, attributes := #[] }, { accessFlags := 26, nameIndex := 65, descriptorIndex := 62, attributes := #[] }, { accessFlags := 24, nameIndex := 430, descriptorIndex := 62, attributes := #[] }, { accessFlags := 4120, nameIndex := 46, descriptorIndex := 47, attributes := #[] }])
  fields := #[{ name := "HI_BYTE_SHIFT", type := .int, accessFlags := 26, slot := 0, constantValue := 0 }, { name := "LO_BYTE_SHIFT", type := .int, accessFlags := 26, slot := 1, constantValue := 0 }, { name := "MAX_LENGTH", type := .int, accessFlags := 24, slot := 2, constantValue := 0 }, { name := "$assertionsDisabled", type := .boolean, accessFlags := 4120, slot := 3, constantValue := 0 }]
  methods := #[k12m0, k12m1, k12m2, k12m3]
  instanceTypes := #[]
  staticTypes := #[.int, .int, .int, .boolean]
  resolved := Array.replicate 635 none
  statics := none }

def pool13 : Array CpInfo := pool [(4, .class_ 6), (1, u "java/lang/Object"), (0, u "<init>"), (0, u "()V"), (5, .class_ 16), (1, u "java/lang/StringLatin1"), (104, u "$assertionsDisabled"), (0, u "Z"), (98, .class_ 223), (1, u "java/lang/StringLatin1$LinesSpliterator"), (57, u "equals"), (0, u "([B[B)Z"), (107, .class_ 391), (0, u "java/lang/StringLatin1$CharsSpliterator")] 3

def k13m0 : Method := { name := "<init>", desc := "()V", sig := { parameters := [], returnType := none }, accessFlags := 0, code := none }
def k13c1 : Code := { maxStack := 3, maxLocals := 3, code := jdk_43_method_13_code, exceptionTable := #[], attributes := #[] }
def k13m1 : Method := { name := "equals", desc := "([B[B)Z", sig := { parameters := [(.array .byte), (.array .byte)], returnType := some .boolean }, accessFlags := 9, code := some k13c1 }
/-- java/lang/StringLatin1 -/
def k13 : Class := { plain "java/lang/StringLatin1" (some 0) with
  accessFlags := 48
  interfaces := #[]
  cf := some (fileOf pool13 14 #[.nestMembers #[390, 221]] #[{ accessFlags := 0, nameIndex := 7, descriptorIndex := 8, attributes := #[] }, { accessFlags := 9, nameIndex := 281, descriptorIndex := 282, attributes := #[] }] 48 4 #[] #[{ accessFlags := 4120, nameIndex := 121, descriptorIndex := 122, attributes := #[] }])
  fields := #[{ name := "$assertionsDisabled", type := .boolean, accessFlags := 4120, slot := 0, constantValue := 0 }]
  methods := #[k13m0, k13m1]
  instanceTypes := #[]
  staticTypes := #[.boolean]
  resolved := Array.replicate 395 none
  statics := none }

def pool14 : Array CpInfo := pool [(2, .class_ 4), (1, u "java/lang/Object"), (0, u "<init>"), (0, u "()V"), (17, .class_ 26), (1, u "jdk/internal/util/Preconditions"), (28, .class_ 56), (0, u "jdk/internal/util/Preconditions$4"), (57, .class_ 115), (0, u "jdk/internal/util/Preconditions$1"), (7, u "SIOOBE_FORMATTER"), (0, u "Ljava/util/function/BiFunction;"), (0, .class_ 126), (0, u "jdk/internal/util/Preconditions$2"), (3, u "AIOOBE_FORMATTER"), (0, .class_ 132), (0, u "jdk/internal/util/Preconditions$3"), (3, u "IOOBE_FORMATTER")] 57

def k14m0 : Method := { name := "<init>", desc := "()V", sig := { parameters := [], returnType := none }, accessFlags := 1, code := none }
/-- jdk/internal/util/Preconditions -/
def k14 : Class := { plain "jdk/internal/util/Preconditions" (some 0) with
  accessFlags := 33
  interfaces := #[]
  cf := some (fileOf pool14 24 #[.nestMembers #[55, 131, 125, 114]] #[{ accessFlags := 1, nameIndex := 5, descriptorIndex := 6, attributes := #[] }] 33 2 #[] #[{ accessFlags := 25, nameIndex := 123, descriptorIndex := 124, attributes := #[] }, { accessFlags := 25, nameIndex := 130, descriptorIndex := 124, attributes := #[] }, { accessFlags := 25, nameIndex := 136, descriptorIndex := 124, attributes := #[] }])
  fields := #[{ name := "SIOOBE_FORMATTER", type := (.object "java/util/function/BiFunction"), accessFlags := 25, slot := 0, constantValue := 0 }, { name := "AIOOBE_FORMATTER", type := (.object "java/util/function/BiFunction"), accessFlags := 25, slot := 1, constantValue := 0 }, { name := "IOOBE_FORMATTER", type := (.object "java/util/function/BiFunction"), accessFlags := 25, slot := 2, constantValue := 0 }]
  methods := #[k14m0]
  instanceTypes := #[]
  staticTypes := #[(.object "java/util/function/BiFunction"), (.object "java/util/function/BiFunction"), (.object "java/util/function/BiFunction")]
  resolved := Array.replicate 194 none
  statics := some 2 }

def pool15 : Array CpInfo := pool [(9, u "<init>"), (6, .class_ 18), (1, u "java/lang/Object"), (0, u "()V"), (1, .class_ 23), (1, u "jdk/internal/util/ArraysSupport"), (0, u "LOG2_ARRAY_LONG_INDEX_SCALE"), (0, u "I"), (2, u "U"), (0, u "Ljdk/internal/misc/Unsafe;"), (8, u "BIG_ENDIAN"), (0, u "Z"), (8, u "LOG2_BYTE_BIT_SIZE"), (4, u "LOG2_ARRAY_INT_INDEX_SCALE"), (54, u "JLA"), (0, u "Ljdk/internal/access/JavaLangAccess;"), (11, u "LOG2_ARRAY_BOOLEAN_INDEX_SCALE"), (9, u "LOG2_ARRAY_BYTE_INDEX_SCALE"), (5, u "LOG2_ARRAY_CHAR_INDEX_SCALE"), (5, u "LOG2_ARRAY_SHORT_INDEX_SCALE"), (18, u "LOG2_ARRAY_FLOAT_INDEX_SCALE"), (24, u "LOG2_ARRAY_DOUBLE_INDEX_SCALE"), (89, u "T_BOOLEAN"), (2, u "T_CHAR"), (1, u "T_FLOAT"), (1, u "T_DOUBLE"), (1, u "T_BYTE"), (1, u "T_SHORT"), (1, u "T_INT"), (1, u "T_LONG"), (1, u "SOFT_MAX_ARRAY_LENGTH")] 83

def k15m0 : Method := { name := "<init>", desc := "()V", sig := { parameters := [], returnType := none }, accessFlags := 2, code := none }
/-- jdk/internal/util/ArraysSupport -/
def k15 : Class := { plain "jdk/internal/util/ArraysSupport" (some 0) with
  accessFlags := 33
  interfaces := #[]
  cf := some (fileOf pool15 21 #[] #[{ accessFlags := 2, nameIndex := 9, descriptorIndex := 19, attributes := #[] }] 33 16 #[] #[{ accessFlags := 24, nameIndex := 28, descriptorIndex := 29, attributes := #[] }, { accessFlags := 26, nameIndex := 38, descriptorIndex := 39, attributes := #[] }, { accessFlags := 25, nameIndex := 121, descriptorIndex := 25, attributes := #[] }, { accessFlags := 25, nameIndex := 131, descriptorIndex := 25, attributes := #[] }, { accessFlags := 25, nameIndex := 137, descriptorIndex := 25, attributes := #[] }, { accessFlags := 25, nameIndex := 143, descriptorIndex := 25, attributes := #[] }, { accessFlags := 25, nameIndex := 53, descriptorIndex := 25, attributes := #[] }, { accessFlags := 25, nameIndex := 24, descriptorIndex := 25, attributes := #[] }, { accessFlags := 25, nameIndex := 162, descriptorIndex := 25, attributes := #[] }, { accessFlags := 25, nameIndex := 187, descriptorIndex := 25, attributes := #[] }, { accessFlags := 26, nameIndex := 48, descriptorIndex := 25, attributes := #[] }, { accessFlags := 25, nameIndex := 277, descriptorIndex := 25, attributes := #[] }, { accessFlags := 25, nameIndex := 280, descriptorIndex := 25, attributes := #[] }, { accessFlags := 25, nameIndex := 282, descriptorIndex := 25, attributes := #[] }, { accessFlags := 25, nameIndex := 284, descriptorIndex := 25, attributes := #[] }, { accessFlags := 25, nameIndex := 286, descriptorIndex := 25, attributes := #[] }, { accessFlags := 25, nameIndex := 288, descriptorIndex := 25, attributes := #[] }, { accessFlags := 25, nameIndex := 290, descriptorIndex := 25, attributes := #[] }, { accessFlags := 25, nameIndex := 292, descriptorIndex := 25, attributes := #[] }, { accessFlags := 26, nameIndex := 108, descriptorIndex := 109, attributes := #[] }, { accessFlags := 25, nameIndex := 294, descriptorIndex := 25, attributes := #[] }])
  fields := #[{ name := "U", type := (.object "jdk/internal/misc/Unsafe"), accessFlags := 24, slot := 0, constantValue := 0 }, { name := "BIG_ENDIAN", type := .boolean, accessFlags := 26, slot := 1, constantValue := 0 }, { name := "LOG2_ARRAY_BOOLEAN_INDEX_SCALE", type := .int, accessFlags := 25, slot := 2, constantValue := 0 }, { name := "LOG2_ARRAY_BYTE_INDEX_SCALE", type := .int, accessFlags := 25, slot := 3, constantValue := 0 }, { name := "LOG2_ARRAY_CHAR_INDEX_SCALE", type := .int, accessFlags := 25, slot := 4, constantValue := 0 }, { name := "LOG2_ARRAY_SHORT_INDEX_SCALE", type := .int, accessFlags := 25, slot := 5, constantValue := 0 }, { name := "LOG2_ARRAY_INT_INDEX_SCALE", type := .int, accessFlags := 25, slot := 6, constantValue := 0 }, { name := "LOG2_ARRAY_LONG_INDEX_SCALE", type := .int, accessFlags := 25, slot := 7, constantValue := 0 }, { name := "LOG2_ARRAY_FLOAT_INDEX_SCALE", type := .int, accessFlags := 25, slot := 8, constantValue := 0 }, { name := "LOG2_ARRAY_DOUBLE_INDEX_SCALE", type := .int, accessFlags := 25, slot := 9, constantValue := 0 }, { name := "LOG2_BYTE_BIT_SIZE", type := .int, accessFlags := 26, slot := 10, constantValue := 0 }, { name := "T_BOOLEAN", type := .int, accessFlags := 25, slot := 11, constantValue := 0 }, { name := "T_CHAR", type := .int, accessFlags := 25, slot := 12, constantValue := 0 }, { name := "T_FLOAT", type := .int, accessFlags := 25, slot := 13, constantValue := 0 }, { name := "T_DOUBLE", type := .int, accessFlags := 25, slot := 14, constantValue := 0 }, { name := "T_BYTE", type := .int, accessFlags := 25, slot := 15, constantValue := 0 }, { name := "T_SHORT", type := .int, accessFlags := 25, slot := 16, constantValue := 0 }, { name := "T_INT", type := .int, accessFlags := 25, slot := 17, constantValue := 0 }, { name := "T_LONG", type := .int, accessFlags := 25, slot := 18, constantValue := 0 }, { name := "JLA", type := (.object "jdk/internal/access/JavaLangAccess"), accessFlags := 26, slot := 19, constantValue := 0 }, { name := "SOFT_MAX_ARRAY_LENGTH", type := .int, accessFlags := 25, slot := 20, constantValue := 0 }]
  methods := #[k15m0]
  instanceTypes := #[]
  staticTypes := #[(.object "jdk/internal/misc/Unsafe"), .boolean, .int, .int, .int, .int, .int, .int, .int, .int, .int, .int, .int, .int, .int, .int, .int, .int, .int, (.object "jdk/internal/access/JavaLangAccess"), .int]
  resolved := Array.replicate 378 none
  statics := none }

def pool16 : Array CpInfo := pool [(1, u "java/lang/Cloneable"), (0, .class_ 1), (0, u "java/lang/Object"), (0, .class_ 3)] 3

/-- java/lang/Cloneable -/
def k16 : Class := { plain "java/lang/Cloneable" (some 0) with
  accessFlags := 1537
  interfaces := #[]
  cf := some (fileOf pool16 2 #[] #[] 1537 4 #[] #[])
  fields := #[]
  methods := #[]
  instanceTypes := #[]
  staticTypes := #[]
  resolved := Array.replicate 8 none
  statics := none }

/-- the primitive byte -/
def k17 : Class := { plain "byte" none with kind := .primitive 'B', accessFlags := 0x411 }
/-- [B -/
def k18 : Class := { plain "[B" (some 0) with kind := .array 17 .byte, interfaces := #[16, 2], accessFlags := 1041 }

/-- the primitive char -/
def k19 : Class := { plain "char" none with kind := .primitive 'C', accessFlags := 0x411 }
/-- [C -/
def k20 : Class := { plain "[C" (some 0) with kind := .array 19 .char, interfaces := #[16, 2], accessFlags := 1041 }

/-- the primitive int -/
def k21 : Class := { plain "int" none with kind := .primitive 'I', accessFlags := 0x411 }
/-- [I -/
def k22 : Class := { plain "[I" (some 0) with kind := .array 21 .int, interfaces := #[16, 2], accessFlags := 1041 }

def heap : Heap := #[{ cls := 7, slots := #[.long 0, .int 1, .null, .int 0, .null, .int 0, .int 0], vm := .statics 7 },
  { cls := 11, slots := #[.ref 3, .ref 4, .ref 5, .ref 6, .ref 7, .ref 8, .null], vm := .statics 11 },
  { cls := 14, slots := #[.null, .null, .null], vm := .statics 14 },
  { cls := 11, slots := #[.null, .int 0, .int 0], vm := .none },
  { cls := 11, slots := #[.null, .int 1, .int 0], vm := .none },
  { cls := 11, slots := #[.null, .int 2, .int 0], vm := .none },
  { cls := 11, slots := #[.null, .int 3, .int 0], vm := .none },
  { cls := 11, slots := #[.null, .int 4, .int 0], vm := .none },
  { cls := 11, slots := #[.null, .int 5, .int 0], vm := .none }]
def classes : Array Class := #[k0, k1, k2, k3, k4, k5, k6, k7, k8, k9, k10, k11, k12, k13, k14, k15, k16, k17, k18, k19, k20, k21, k22]
def interned : List (Array UInt16 × Addr) := []
def slotsUsed : Nat := 35
def theMethod : MethodId := ⟨1, 3⟩
def args0 : Array Value := #[.int 4, .int 65, .int 66, .int 67, .int 68, .int 69]
def aboutOver (below : List Frame) : State where
  vm := { classes := classes, interned := interned.toArray }
  heap := heap
  slotsUsed := slotsUsed
  threads := #[{ frames := .invoking theMethod args0 :: below }]
def below0 : List Frame := [.native { method := ⟨0, 0⟩, args := #[] }]
def about1 : State := aboutOver below0
def p0 : Program := .bare "" "" ""
def e0 : Env := launch0.env 0 0 0
theorem w_frames : about1.frames = Frame.invoking theMethod args0 :: below0 := rfl
set_option maxRecDepth 65536 in
theorem w_args : argsFit about1.vm theMethod args0 = true := by decide +kernel
set_option maxRecDepth 65536 in
theorem w_heap : heapFits about1 = true := by decide +kernel
set_option maxRecDepth 65536 in
theorem w_runnable : about1.curStatus? = some .runnable := by decide +kernel
set_option maxRecDepth 65536 in
theorem w_alone : about1.alone = true := by decide +kernel
set_option maxRecDepth 65536 in
theorem w_named : about1.methodNamed? x = some theMethod := by decide +kernel
set_option maxRecDepth 65536 in
theorem w_hears : about1.hears theMethod below0 = true := by decide +kernel
set_option maxRecDepth 65536 in
theorem w_ripe : about1.ripe theMethod args0 below0 = true := by decide +kernel
theorem w_running : about1.status = .running := rfl
set_option maxRecDepth 65536 in
theorem w_room : about1.hasRoom e0.platform room_1 = true :=
  launch0.hasRoom_least _ room_1 (by decide +kernel) (by decide +kernel) (by decide +kernel) (by decide +kernel) (by decide +kernel) (by decide +kernel)
theorem allAtoms_all (ts : List Jvm.Cond) (a : Array Jvm.Value) (st : Jvm.State) : (allAtoms ts).before a st = ts.all (fun c => c.before a st) := by
  induction ts with
  | nil => rfl
  | cons c t ih =>
    show (Jvm.Cond.and c (allAtoms t)).before a st = _
    rw [Jvm.Cond.before_and, ih, List.all_cons]
def words1 : List Jvm.Cond := Jvm.Cond.code x code maxLocals ret :: tables_1
/-- a 'code' word, met by the world's own term for the bytes: nothing is compared byte by byte -/
theorem code_word {y : MethodName} {bytes : ByteArray} {mx : Nat} {rt : Option FieldType} {a : Array Value} {s : State} {m : MethodId} {meth : Method} {c : Code} (h1 : s.methodNamed? y = some m) (h2 : s.vm.method? m = some meth) (h3 : meth.code = some c) (h4 : c.code = bytes)
    (h5 : (c.maxLocals == mx && c.exceptionTable.isEmpty && decide (c.maxStack ≤ mostOperands) && decide (meth.sig.returnType = rt) && !meth.locks && decide (parseMethodDescriptor y.desc = some meth.sig)) = true) : (Jvm.Cond.code y bytes mx rt).before a s = true := by
  simp only [Bool.and_eq_true, beq_iff_eq, Bool.not_eq_true', decide_eq_true_eq] at h5
  obtain ⟨⟨⟨⟨⟨g1, g2⟩, g3⟩, g4⟩, g5⟩, g6⟩ := h5
  simp [Cond.before, Cond.holds, Cond.value, h1, h2, h3, h4, g1, g2, g3, g4, g5, g6]
def isCode : Jvm.Cond → Bool
  | .code _ _ _ _ => true
  | _ => false
theorem all_split {L : List Jvm.Cond} {P : Jvm.Cond → Bool} (h1 : L.all (fun c => isCode c || P c) = true) (h2 : ∀ c ∈ L.filter isCode, P c = true) : L.all P = true := by
  refine List.all_eq_true.mpr fun c hc => ?_
  have h := List.all_eq_true.mp h1 c hc
  rcases Bool.eq_false_or_eq_true (isCode c) with hi | hi
  · exact h2 c (List.mem_filter.mpr ⟨hc, hi⟩)
  · simpa [hi] using h
set_option maxRecDepth 65536 in
theorem w_c0 : (Jvm.Cond.code x code maxLocals ret).before args0 about1 = true := code_word (m := ⟨1, 3⟩) (meth := k1m3) (c := k1c3) (by decide +kernel) rfl rfl rfl (by decide +kernel)
set_option maxRecDepth 65536 in
theorem w_c1 : (Jvm.Cond.code ({ cls := "com/example/query_to_table/querytotable/sql/TokenIsSymbolPinLaw", name := "mk", desc := "(ICC)Ljava/lang/String;" } : Jvm.MethodName) method_3_code (3 : Nat) (Option.some (Jvm.ClassFile.FieldType.object "java/lang/String"))).before args0 about1 = true := code_word (m := ⟨1, 2⟩) (meth := k1m2) (c := k1c2) (by decide +kernel) rfl rfl rfl (by decide +kernel)
set_option maxRecDepth 65536 in
theorem w_c2 : (Jvm.Cond.code ({ cls := "java/lang/String", name := "<init>", desc := "([C)V" } : Jvm.MethodName) jdk_42_method_3_code (2 : Nat) (Option.none : Option Jvm.ClassFile.FieldType)).before args0 about1 = true := code_word (m := ⟨7, 1⟩) (meth := k7m1) (c := k7c1) (by decide +kernel) rfl rfl rfl (by decide +kernel)
set_option maxRecDepth 65536 in
theorem w_c3 : (Jvm.Cond.code ({ cls := "java/lang/String", name := "<init>", desc := "([CIILjava/lang/Void;)V" } : Jvm.MethodName) jdk_42_method_149_code (6 : Nat) (Option.none : Option Jvm.ClassFile.FieldType)).before args0 about1 = true := code_word (m := ⟨7, 3⟩) (meth := k7m3) (c := k7c3) (by decide +kernel) rfl rfl rfl (by decide +kernel)
set_option maxRecDepth 65536 in
theorem w_c4 : (Jvm.Cond.code ({ cls := "java/lang/Object", name := "<init>", desc := "()V" } : Jvm.MethodName) object_method_1_code (1 : Nat) (Option.none : Option Jvm.ClassFile.FieldType)).before args0 about1 = true := code_word (m := ⟨0, 0⟩) (meth := k0m0) (c := k0c0) (by decide +kernel) rfl rfl rfl (by decide +kernel)
set_option maxRecDepth 65536 in
theorem w_c5 : (Jvm.Cond.code ({ cls := "com/example/query_to_table/querytotable/sql/TokenIsSymbolPinLaw", name := "kindOf", desc := "(I)Lcom/example/query_to_table/querytotable/sql/Token$Kind;" } : Jvm.MethodName) method_2_code (1 : Nat) (Option.some (Jvm.ClassFile.FieldType.object "com/example/query_to_table/querytotable/sql/Token$Kind"))).before args0 about1 = true := code_word (m := ⟨1, 1⟩) (meth := k1m1) (c := k1c1) (by decide +kernel) rfl rfl rfl (by decide +kernel)
set_option maxRecDepth 65536 in
theorem w_c6 : (Jvm.Cond.code ({ cls := "com/example/query_to_table/querytotable/sql/Token", name := "<init>", desc := "(Lcom/example/query_to_table/querytotable/sql/Token$Kind;Ljava/lang/String;III)V" } : Jvm.MethodName) prog_22_method_1_code (6 : Nat) (Option.none : Option Jvm.ClassFile.FieldType)).before args0 about1 = true := code_word (m := ⟨9, 0⟩) (meth := k9m0) (c := k9c0) (by decide +kernel) rfl rfl rfl (by decide +kernel)
set_option maxRecDepth 65536 in
theorem w_c7 : (Jvm.Cond.code ({ cls := "java/lang/Record", name := "<init>", desc := "()V" } : Jvm.MethodName) jdk_30_method_1_code (1 : Nat) (Option.none : Option Jvm.ClassFile.FieldType)).before args0 about1 = true := code_word (m := ⟨8, 0⟩) (meth := k8m0) (c := k8c0) (by decide +kernel) rfl rfl rfl (by decide +kernel)
set_option maxRecDepth 65536 in
theorem w_c8 : (Jvm.Cond.code ({ cls := "com/example/query_to_table/querytotable/sql/Token", name := "isSymbol", desc := "(Ljava/lang/String;)Z" } : Jvm.MethodName) prog_22_method_3_code (2 : Nat) (Option.some Jvm.ClassFile.FieldType.boolean)).before args0 about1 = true := code_word (m := ⟨9, 1⟩) (meth := k9m1) (c := k9c1) (by decide +kernel) rfl rfl rfl (by decide +kernel)
set_option maxRecDepth 65536 in
theorem w_c9 : (Jvm.Cond.code ({ cls := "java/lang/StringUTF16", name := "compress", desc := "([CII)[B" } : Jvm.MethodName) jdk_52_method_16_code (6 : Nat) (Option.some (Jvm.ClassFile.FieldType.array Jvm.ClassFile.FieldType.byte))).before args0 about1 = true := code_word (m := ⟨12, 2⟩) (meth := k12m2) (c := k12c2) (by decide +kernel) rfl rfl rfl (by decide +kernel)
set_option maxRecDepth 65536 in
theorem w_c10 : (Jvm.Cond.code ({ cls := "java/lang/StringUTF16", name := "compress", desc := "([CI[BII)I" } : Jvm.MethodName) jdk_52_method_21_code (7 : Nat) (Option.some Jvm.ClassFile.FieldType.int)).before args0 about1 = true := code_word (m := ⟨12, 3⟩) (meth := k12m3) (c := k12c3) (by decide +kernel) rfl rfl rfl (by decide +kernel)
set_option maxRecDepth 65536 in
theorem w_c11 : (Jvm.Cond.code ({ cls := "java/lang/StringUTF16", name := "coderFromArrayLen", desc := "([BI)B" } : Jvm.MethodName) jdk_52_method_15_code (2 : Nat) (Option.some Jvm.ClassFile.FieldType.byte)).before args0 about1 = true := code_word (m := ⟨12, 1⟩) (meth := k12m1) (c := k12c1) (by decide +kernel) rfl rfl rfl (by decide +kernel)
set_option maxRecDepth 65536 in
theorem w_c12 : (Jvm.Cond.code ({ cls := "java/lang/String", name := "equals", desc := "(Ljava/lang/Object;)Z" } : Jvm.MethodName) jdk_42_method_66_code (3 : Nat) (Option.some Jvm.ClassFile.FieldType.boolean)).before args0 about1 = true := code_word (m := ⟨7, 2⟩) (meth := k7m2) (c := k7c2) (by decide +kernel) rfl rfl rfl (by decide +kernel)
set_option maxRecDepth 65536 in
theorem w_c13 : (Jvm.Cond.code ({ cls := "java/lang/StringLatin1", name := "equals", desc := "([B[B)Z" } : Jvm.MethodName) jdk_43_method_13_code (3 : Nat) (Option.some Jvm.ClassFile.FieldType.boolean)).before args0 about1 = true := code_word (m := ⟨13, 1⟩) (meth := k13m1) (c := k13c1) (by decide +kernel) rfl rfl rfl (by decide +kernel)
def codes1 : List Jvm.Cond := [Jvm.Cond.code x code maxLocals ret, Jvm.Cond.code ({ cls := "com/example/query_to_table/querytotable/sql/TokenIsSymbolPinLaw", name := "mk", desc := "(ICC)Ljava/lang/String;" } : Jvm.MethodName) method_3_code (3 : Nat) (Option.some (Jvm.ClassFile.FieldType.object "java/lang/String")), Jvm.Cond.code ({ cls := "java/lang/String", name := "<init>", desc := "([C)V" } : Jvm.MethodName) jdk_42_method_3_code (2 : Nat) (Option.none : Option Jvm.ClassFile.FieldType), Jvm.Cond.code ({ cls := "java/lang/String", name := "<init>", desc := "([CIILjava/lang/Void;)V" } : Jvm.MethodName) jdk_42_method_149_code (6 : Nat) (Option.none : Option Jvm.ClassFile.FieldType), Jvm.Cond.code ({ cls := "java/lang/Object", name := "<init>", desc := "()V" } : Jvm.MethodName) object_method_1_code (1 : Nat) (Option.none : Option Jvm.ClassFile.FieldType), Jvm.Cond.code ({ cls := "com/example/query_to_table/querytotable/sql/TokenIsSymbolPinLaw", name := "kindOf", desc := "(I)Lcom/example/query_to_table/querytotable/sql/Token$Kind;" } : Jvm.MethodName) method_2_code (1 : Nat) (Option.some (Jvm.ClassFile.FieldType.object "com/example/query_to_table/querytotable/sql/Token$Kind")), Jvm.Cond.code ({ cls := "com/example/query_to_table/querytotable/sql/Token", name := "<init>", desc := "(Lcom/example/query_to_table/querytotable/sql/Token$Kind;Ljava/lang/String;III)V" } : Jvm.MethodName) prog_22_method_1_code (6 : Nat) (Option.none : Option Jvm.ClassFile.FieldType), Jvm.Cond.code ({ cls := "java/lang/Record", name := "<init>", desc := "()V" } : Jvm.MethodName) jdk_30_method_1_code (1 : Nat) (Option.none : Option Jvm.ClassFile.FieldType), Jvm.Cond.code ({ cls := "com/example/query_to_table/querytotable/sql/Token", name := "isSymbol", desc := "(Ljava/lang/String;)Z" } : Jvm.MethodName) prog_22_method_3_code (2 : Nat) (Option.some Jvm.ClassFile.FieldType.boolean), Jvm.Cond.code ({ cls := "java/lang/StringUTF16", name := "compress", desc := "([CII)[B" } : Jvm.MethodName) jdk_52_method_16_code (6 : Nat) (Option.some (Jvm.ClassFile.FieldType.array Jvm.ClassFile.FieldType.byte)), Jvm.Cond.code ({ cls := "java/lang/StringUTF16", name := "compress", desc := "([CI[BII)I" } : Jvm.MethodName) jdk_52_method_21_code (7 : Nat) (Option.some Jvm.ClassFile.FieldType.int), Jvm.Cond.code ({ cls := "java/lang/StringUTF16", name := "coderFromArrayLen", desc := "([BI)B" } : Jvm.MethodName) jdk_52_method_15_code (2 : Nat) (Option.some Jvm.ClassFile.FieldType.byte), Jvm.Cond.code ({ cls := "java/lang/String", name := "equals", desc := "(Ljava/lang/Object;)Z" } : Jvm.MethodName) jdk_42_method_66_code (3 : Nat) (Option.some Jvm.ClassFile.FieldType.boolean), Jvm.Cond.code ({ cls := "java/lang/StringLatin1", name := "equals", desc := "([B[B)Z" } : Jvm.MethodName) jdk_43_method_13_code (3 : Nat) (Option.some Jvm.ClassFile.FieldType.boolean)]
set_option maxRecDepth 65536 in
theorem codes_eq : words1.filter isCode = codes1 := rfl
theorem w_codes : ∀ c ∈ words1.filter isCode, c.before args0 about1 = true := by
  rw [codes_eq]
  intro c hc
  simp only [codes1, List.mem_cons, List.not_mem_nil, or_false] at hc
  rcases hc with rfl | rfl | rfl | rfl | rfl | rfl | rfl | rfl | rfl | rfl | rfl | rfl | rfl | rfl
  · exact w_c0
  · exact w_c1
  · exact w_c2
  · exact w_c3
  · exact w_c4
  · exact w_c5
  · exact w_c6
  · exact w_c7
  · exact w_c8
  · exact w_c9
  · exact w_c10
  · exact w_c11
  · exact w_c12
  · exact w_c13
set_option maxRecDepth 65536 in
theorem w_t1 : (words1.take 24).all (fun c => isCode c || c.before args0 about1) = true := by decide +kernel
set_option maxRecDepth 65536 in
theorem w_t2 : ((words1.drop 24).take 24).all (fun c => isCode c || c.before args0 about1) = true := by decide +kernel
set_option maxRecDepth 65536 in
theorem w_t3 : (((words1.drop 24).drop 24).take 24).all (fun c => isCode c || c.before args0 about1) = true := by decide +kernel
set_option maxRecDepth 65536 in
theorem w_t4 : (((words1.drop 24).drop 24).drop 24).all (fun c => isCode c || c.before args0 about1) = true := by decide +kernel
theorem w_tables : (allAtoms (Jvm.Cond.code x code maxLocals ret :: tables_1)).before args0 about1 = true := by
  rw [allAtoms_all]
  show words1.all (fun c => c.before args0 about1) = true
  refine all_split ?_ w_codes
  rw [← List.take_append_drop 24 words1, List.all_append, w_t1, ← List.take_append_drop 24 (words1.drop 24), List.all_append, w_t2, ← List.take_append_drop 24 ((words1.drop 24).drop 24), List.all_append, w_t3, w_t4]
  rfl
set_option maxRecDepth 65536 in
theorem w_rest : rest_1_c.before args0 about1 = true := by decide +kernel
set_option maxRecDepth 65536 in
theorem w_case : (Jvm.Cond.and given_1 narrow_1).before args0 about1 = true := by decide +kernel
set_option maxRecDepth 65536 in
theorem w_consts : constsHeld consts_1 about1 := Jvm.Lit.constsHeldB_iff.mp (by decide +kernel)
theorem w_applies : (headSpec (Jvm.Cond.code x code maxLocals ret :: tables_1) room_1).applies x e0.platform about1 = true :=
  (Spec.applies_iff w_frames).mpr ⟨w_running, w_runnable, w_alone, w_named, w_hears, w_ripe, w_room, w_tables⟩
theorem atStart : AtStart classFile x code maxLocals ret World_1 tables_1 room_1 Calls_1 rest_1 Pre_1 launch0 p0 e0 about1 theMethod args0 below0 :=
  ⟨lists_1, trivial, launch0.admits_env _ _ _, launch0.least_env, fairChoices_fair.cas, fairChoices_fair.clock, w_frames, w_args, w_heap, w_applies, ⟨w_consts, trivial⟩, w_rest, w_case⟩
end start1
theorem witness_1 : WitnessClaimed_1 := ⟨start1.p0, start1.e0, start1.about1, start1.theMethod, start1.args0, start1.below0, start1.atStart⟩
end Jvm.Pilot.@@N@@
