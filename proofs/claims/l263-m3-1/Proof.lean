import JvmDerived
import JvmDerived.Pilot.@@N@@Statement
import JvmDerived.Pilot.@@N@@Code
set_option linter.unusedVariables false
set_option linter.unusedSimpArgs false
namespace Jvm.Pilot.@@N@@
open Jvm Jvm.ClassFile Sem Op Lib Jvm.Free Jvm.Stand Jvm.LawKit Jvm.RoadKit Bundle Jvm.Pilot.@@N@@.Jvm.D
theorem own_w {a0 : Array Value} {Z : State} (hw : ∀ d ∈ tables_1, d.before a0 Z = true) (i : Nat) {d : Jvm.Cond} (h : tables_1[i]? = some d) : d.before a0 Z = true := hw d (List.mem_of_getElem? h)
section Own
variable {p : Program} {l : Launch} {e : Env} {R : Room} {s : State} {m : MethodId} {args : Array Value} {below : List Frame} {meth : Method} {c : Code} {T T' : State} {locs : List Loc} {cells slots : Nat} {g g' : JFrame} {K : Outcome → State → Prop} {Q : Option Value → Heap → List Loc → Prop} {kc ks : Nat}
/-- from this state, with this frame on top, the run comes to an end at which K holds -/
def own_E (p : Program) (e : Env) (below : List Frame) (K : Outcome → State → Prop) (T : State) (g : JFrame) : Prop :=
  ∃ s₂ o, Steps p.tables e below (T.setTop g) s₂ ∧ s₂.status = .running ∧ Ended s₂ below o ∧ K o s₂
def own_K (Q : Option Value → Heap → List Loc → Prop) (s : State) (kc ks : Nat) : Outcome → State → Prop :=
  fun o U' => ∃ v L, o = .returned v ∧ Q v U'.heap L ∧ FrameEnd s o U' L kc ks
theorem own_st (st : ∀ t, Steps p.tables e below (T'.setTop g') t → Steps p.tables e below (T.setTop g) t) (k : own_E p e below K T' g') : own_E p e below K T g := by
  obtain ⟨s2, o, h1, h2⟩ := k
  exact ⟨s2, o, st _ h1, h2⟩
theorem own_tr (st : Steps p.tables e below (T.setTop g) (T'.setTop g')) (k : own_E p e below K T' g') : own_E p e below K T g :=
  own_st (fun _ h => st.trans h) k
theorem own_pre (q : g = g') (k : own_E p e below K T g') : own_E p e below K T g := q ▸ k
theorem own_end (X : Stand p l e R s m args below meth c T locs cells slots) (hlk : meth.locks = false) {v : Option Value} (hv : meth.sig.returnType = none → v = none)
    (hr : ∀ fs : List Frame, (∀ (f : JFrame) (acts : List Action), f.method = m → f.locked = none → f.entered = [] → (doReturn e (T.setTop f) acts v).1 = T.setFrames fs) → Steps p.tables e below (T.setTop g) (T.setFrames fs))
    (hc : cells ≤ kc) (hs : slots ≤ ks) (hQ : Q v T.heap locs) : own_E p e below (own_K Q s kc ks) T g := by
  obtain ⟨fs, h1, hrun, hended, hW, hsame⟩ := X.leave (v := v) hv hlk
  exact ⟨_, _, hr fs h1, hrun, hended, _, _, rfl, hQ, ⟨_, rfl⟩, hW, hsame.mono hc hs⟩
theorem own_retV (X : Stand p l e R s m args below meth c T locs cells slots) (hx : p.tables.exec = Jvm.exec) (hlk : meth.locks = false) {pc : Nat} {Ls : Array Slot} (hret : meth.sig.returnType = none)
    (hd : decode c.code pc = .ok (.return_, 1)) (hc : cells ≤ kc) (hs : slots ≤ ks) (hQ : Q none T.heap locs) : own_E p e below (own_K Q s kc ks) T (mkF m pc Ls []) :=
  own_end X hlk (fun _ => rfl) (fun fs h => X.returnOut hx hret hd h) hc hs hQ
theorem own_retG (X : Stand p l e R s m args below meth c T locs cells slots) (hx : p.tables.exec = Jvm.exec) (hlk : meth.locks = false) {pc : Nat} {Ls : Array Slot} {w : Value} {t : FieldType} {i : Instr} {rest : List Value} (hret : meth.sig.returnType = some t) (hn : narrow t w = w)
    (hi : (i = .ireturn ∧ (t = .int ∨ t = .boolean ∨ t = .byte ∨ t = .char ∨ t = .short) ∧ ∃ z, w = .int z) ∨ (i = .lreturn ∧ t = .long ∧ ∃ z, w = .long z) ∨ (i = .dreturn ∧ t = .double ∧ ∃ z, w = .double z) ∨ (i = .freturn ∧ t = .float ∧ ∃ z, w = .float z) ∨ (i = .areturn ∧ t.isReference = true ∧ w.isRef = true))
    (hd : decode c.code pc = .ok (i, 1)) (hc : cells ≤ kc) (hs : slots ≤ ks) (hQ : Q (some w) T.heap locs) : own_E p e below (own_K Q s kc ks) T (mkF m pc Ls (w :: rest)) :=
  own_end X hlk (fun h => by rw [hret] at h; cases h) (fun fs h => retOut X hx hret hn hi hd h) hc hs hQ
theorem own_retI (X : Stand p l e R s m args below meth c T locs cells slots) (hx : p.tables.exec = Jvm.exec) (hlk : meth.locks = false) {pc : Nat} {Ls : Array Slot} {z : Int32} {rest : List Value} (hret : meth.sig.returnType = some .int)
    (hd : decode c.code pc = .ok (.ireturn, 1)) (hc : cells ≤ kc) (hs : slots ≤ ks) (hQ : Q (some (.int z)) T.heap locs) : own_E p e below (own_K Q s kc ks) T (mkF m pc Ls (.int z :: rest)) :=
  own_retG X hx hlk hret rfl (Or.inl ⟨rfl, Or.inl rfl, z, rfl⟩) hd hc hs hQ
theorem own_retS (X : Stand p l e R s m args below meth c T locs cells slots) (hx : p.tables.exec = Jvm.exec) (hlk : meth.locks = false) {pc : Nat} {Ls : Array Slot} {z : Int32} {t : FieldType} {rest : List Value} (hret : meth.sig.returnType = some t) (hn : narrow t (.int z) = .int z)
    (ht : t = .int ∨ t = .boolean ∨ t = .byte ∨ t = .char ∨ t = .short) (hd : decode c.code pc = .ok (.ireturn, 1)) (hc : cells ≤ kc) (hs : slots ≤ ks) (hQ : Q (some (.int z)) T.heap locs) : own_E p e below (own_K Q s kc ks) T (mkF m pc Ls (.int z :: rest)) :=
  own_retG X hx hlk hret hn (Or.inl ⟨rfl, ht, z, rfl⟩) hd hc hs hQ
theorem own_retN (X : Stand p l e R s m args below meth c T locs cells slots) (hx : p.tables.exec = Jvm.exec) (hlk : meth.locks = false) {pc : Nat} {Ls : Array Slot} {z : Int32} {t : FieldType} {rest : List Value} (hret : meth.sig.returnType = some t)
    (ht : t = .boolean ∨ t = .byte ∨ t = .char ∨ t = .short) (hd : decode c.code pc = .ok (.ireturn, 1)) (hc : cells ≤ kc) (hs : slots ≤ ks) (hQ : Q (some (.int (nar t z))) T.heap locs) : own_E p e below (own_K Q s kc ks) T (mkF m pc Ls (.int z :: rest)) :=
  own_end X hlk (fun h => by rw [hret] at h; cases h) (fun fs h => retN X hx hret ht hd h) hc hs hQ
theorem own_retJ (X : Stand p l e R s m args below meth c T locs cells slots) (hx : p.tables.exec = Jvm.exec) (hlk : meth.locks = false) {pc : Nat} {Ls : Array Slot} {z : Int64} {rest : List Value} (hret : meth.sig.returnType = some .long)
    (hd : decode c.code pc = .ok (.lreturn, 1)) (hc : cells ≤ kc) (hs : slots ≤ ks) (hQ : Q (some (.long z)) T.heap locs) : own_E p e below (own_K Q s kc ks) T (mkF m pc Ls (.long z :: rest)) :=
  own_retG X hx hlk hret rfl (Or.inr (Or.inl ⟨rfl, rfl, z, rfl⟩)) hd hc hs hQ
theorem own_retA (X : Stand p l e R s m args below meth c T locs cells slots) (hx : p.tables.exec = Jvm.exec) (hlk : meth.locks = false) {pc : Nat} {Ls : Array Slot} {w : Value} {t : FieldType} {rest : List Value} (hret : meth.sig.returnType = some t) (ht : t.isReference = true) (hw : w.isRef = true)
    (hd : decode c.code pc = .ok (.areturn, 1)) (hc : cells ≤ kc) (hs : slots ≤ ks) (hQ : Q (some w) T.heap locs) : own_E p e below (own_K Q s kc ks) T (mkF m pc Ls (w :: rest)) :=
  own_retG X hx hlk hret (by cases w <;> cases t <;> first | rfl | (simp [Value.isRef] at hw) | (simp [FieldType.isReference] at ht)) (Or.inr (Or.inr (Or.inr (Or.inr ⟨rfl, ht, hw⟩)))) hd hc hs hQ
end Own
theorem own_StaK {Z : State} {h h' : Heap} {C n d : String} {v : Value} (F : Sta Z h C n d v) (K : Keep h h' []) : Sta Z h' C n d v := Sta.ext ⟨K.1, fun a c q => K.2.1 a c q nin0⟩ F
section OwnArr
variable {p : Program} {l : Launch} {e : Env} {R : Room} {s : State} {m : MethodId} {args : Array Value} {below : List Frame} {meth : Method} {c : Code} {T : State} {locs : List Loc} {cells slots : Nat} {Z : State} {h : Heap} {a : Addr} {k : ClassId} {z : Int32} {vs : List Value} {dv : Value}
theorem own_alen (X : Stand p l e R s m args below meth c T locs cells slots) (hx : p.tables.exec = Jvm.exec) (hZ : Z.Warmed39 s.vm) (eT : T.heap = h) {ty : FieldType} (F : Arv Z h a k ty z vs dv) {g : JFrame} (hg : g.method = m) {rest : List Value} (hs : g.stack = .ref a :: rest) (hd : decode c.code g.pc = .ok (.arraylength, 1)) :
    ∀ target, Steps p.tables e below (T.setTop { g with pc := g.pc + 1, stack := .int z :: rest }) target → Steps p.tables e below (T.setTop g) target := by
  obtain ⟨cl, A, q, S, N, H, G⟩ := F
  intro target hr
  refine X.arraylength hx (by rw [eT]; exact A.1) (State.isArrayOf_alike hZ.alike A.2.1) hg hs hd _ ?_
  rw [len_of S N]; exact hr
theorem own_ald (X : Stand p l e R s m args below meth c T locs cells slots) (hx : p.tables.exec = Jvm.exec) (hZ : Z.Warmed39 s.vm) (eT : T.heap = h) (F : Arv Z h a k .int z vs dv) {j : Int32} (hj : ¬ j < 0 ∧ j < z) {v : Value} (hv : vs.getD j.toNatClampNeg dv = v) {g : JFrame} (hg : g.method = m) {rest : List Value} (hs : g.stack = .int j :: .ref a :: rest) (hd : decode c.code g.pc = .ok (.iaload, 1)) :
    ∀ target, Steps p.tables e below (T.setTop { g with pc := g.pc + 1, stack := v :: rest }) target → Steps p.tables e below (T.setTop g) target := by
  obtain ⟨cl, A, q, S, N, H, G⟩ := F
  have hin := inb_of S hj
  exact X.iaload hx (by rw [eT]; exact A.1) (State.isArrayOf_alike hZ.alike A.2.1) A.2.2 hin (H.at hin hv) hg hs hd
theorem own_ast (X : Stand p l e R s m args below meth c T locs cells slots) (hx : p.tables.exec = Jvm.exec) (hZ : Z.Warmed39 s.vm) (eT : T.heap = h) (F : Arv Z h a k .int z vs dv) {j : Int32} (hj : ¬ j < 0 ∧ j < z) {x : Int32} {i : Nat} (hi : j.toNatClampNeg = i) (hl : i < vs.length) {g : JFrame} (hg : g.method = m) {rest : List Value} (hs : g.stack = .int x :: .int j :: .ref a :: rest) (hd : decode c.code g.pc = .ok (.iastore, 1)) :
    ∃ T' h', Stand p l e R s m args below meth c T' (locs ++ [⟨a, j.toNatClampNeg⟩]) cells slots ∧ T'.heap = h' ∧ Wr h h' a j.toNatClampNeg (.int x) ∧ Arv Z h' a k .int z (vs.set i (.int x)) dv ∧ ∀ target, Steps p.tables e below (T'.setTop { g with pc := g.pc + 1, stack := rest }) target → Steps p.tables e below (T.setTop g) target := by
  obtain ⟨cl, A, q, S, N, H, G⟩ := F
  have hin := inb_of S hj
  obtain ⟨T', h', X', e', W, st⟩ := stI X hx hZ eT A hin hg hs hd
  exact ⟨T', h', X', e', W, Arv.set A q S N H G rfl W i hi hl, st⟩
theorem own_cst (X : Stand p l e R s m args below meth c T locs cells slots) (hx : p.tables.exec = Jvm.exec) (hZ : Z.Warmed39 s.vm) (eT : T.heap = h) (F : Arv Z h a k .char z vs dv) {j : Int32} (hj : ¬ j < 0 ∧ j < z) {x : Int32} {i : Nat} (hi : j.toNatClampNeg = i) (hl : i < vs.length) {g : JFrame} (hg : g.method = m) {rest : List Value} (hs : g.stack = .int x :: .int j :: .ref a :: rest) (hd : decode c.code g.pc = .ok (.castore, 1)) :
    ∃ T' h', Stand p l e R s m args below meth c T' (locs ++ [⟨a, j.toNatClampNeg⟩]) cells slots ∧ T'.heap = h' ∧ Wr h h' a j.toNatClampNeg (.int (nar .char x)) ∧ Arv Z h' a k .char z (vs.set i (.int (nar .char x))) dv ∧ ∀ target, Steps p.tables e below (T'.setTop { g with pc := g.pc + 1, stack := rest }) target → Steps p.tables e below (T.setTop g) target := by
  obtain ⟨cl, A, q, S, N, H, G⟩ := F
  have hin := inb_of S hj
  obtain ⟨T', h', X', e', W, st⟩ := stC X hx hZ eT A hin hg hs hd
  exact ⟨T', h', X', e', W, Arv.set A q S N H G (fits_nar_char _) W i hi hl, st⟩
end OwnArr
abbrev own_y0 : MethodName := ⟨"java/lang/Math", "min", "(II)I"⟩
theorem own_d_jdk_29_method_69_0 : decode jdk_29_method_69_code 0 = .ok (.iload_n 0, 1) := by decide +kernel
theorem own_d_jdk_29_method_69_1 : decode jdk_29_method_69_code 1 = .ok (.iload_n 1, 1) := by decide +kernel
theorem own_d_jdk_29_method_69_2 : decode jdk_29_method_69_code 2 = .ok (.if_icmp .gt 7, 3) := by decide +kernel
theorem own_d_jdk_29_method_69_9 : decode jdk_29_method_69_code 9 = .ok (.iload_n 1, 1) := by decide +kernel
theorem own_d_jdk_29_method_69_10 : decode jdk_29_method_69_code 10 = .ok (.ireturn, 1) := by decide +kernel
theorem own_d_jdk_29_method_69_5 : decode jdk_29_method_69_code 5 = .ok (.iload_n 0, 1) := by decide +kernel
theorem own_d_jdk_29_method_69_6 : decode jdk_29_method_69_code 6 = .ok (.goto 4, 3) := by decide +kernel
def own_min_Q (p1 : Int32) (p2 : Int32) (h0 : Heap) (v : Option Value) (h : Heap) (L : List Loc) : Prop := ((v = some (.int p2) ∧ p2 < p1) ∨ (v = some (.int p1) ∧ ¬ (p2 < p1))) ∧ h = h0 ∧ L = []
theorem own_min_ef (m : MethodId) (p1 : Int32) (p2 : Int32) : entryFrame m #[(.int p1), (.int p2)] 2 = mkF m 0 #[.val (.int p1), .val (.int p2)] [] := by first | (simp [entryFrame, mkF, argsToLocals, Value.category]; done) | rfl
set_option maxRecDepth 65536 in
set_option maxHeartbeats 40000000 in
theorem own_min (l : Launch) (Z : State) (a0 : Array Value) (hw : ∀ d ∈ tables_1, d.before a0 Z = true) (ws : List Jvm.Cond) (p1 : Int32) (p2 : Int32) (h0 : Heap) (n0 : Nat) (Z0 : n0 ≤ h0.size)  :
    MetFree l own_y0 (head1 (Jvm.Cond.code own_y0 jdk_29_method_69_code 2 (some .int) :: ws) ({ frames := 0, cells := 0, slots := 0, locals := 0 } : Room)) (fun a U => a = #[(.int p1), (.int p2)] ∧ Z.Warmed39 U.vm ∧ U.heap = h0) (fun _ _ _ _ _ => True) (fun _ U o U' => ∃ v L, o = .returned v ∧ own_min_Q p1 p2 h0 v U'.heap L ∧ FrameEnd U o U' L ({ frames := 0, cells := 0, slots := 0, locals := 0 } : Room).cells ({ frames := 0, cells := 0, slots := 0, locals := 0 } : Room).slots) := by
  refine MetFree.of_bodySF (by decide +kernel : plainFor own_y0 = true) hisR ?_
  intro p e s m args below meth c s₁ Bd hml0 hP hK
  obtain ⟨rfl, hZ, hh⟩ := hP
  have hx := Bd.exec
  have hby := Bd.bytes
  have hml : c.maxLocals = 2 := hml0
  have hown : s.vm.findClass "java/lang/Math" = some m.cls := findClass_of_methodNamed Bd.named
  have hnm := (name_of_methodNamed Bd.named Bd.method).1
  have X0 : Stand p l e ({ frames := 0, cells := 0, slots := 0, locals := 0 } : Room) s m #[(.int p1), (.int p2)] below meth c s₁ [] 0 0 := Stand.of_body Bd
  have e0 : s₁.heap = h0 := by rw [← hh, Bd.state]; rfl
  show own_E p e below (own_K (own_min_Q p1 p2 h0) s ({ frames := 0, cells := 0, slots := 0, locals := 0 } : Room).cells ({ frames := 0, cells := 0, slots := 0, locals := 0 } : Room).slots) s₁ (entryFrame m #[(.int p1), (.int p2)] 2)
  refine own_pre (own_min_ef m p1 p2) ?_
  show own_E p e below _ s₁ (mkF m 0 #[iv p1, iv p2] [])
  refine own_st (fun t k => XS.iloadN X0.here hx rfl (hb hby own_d_jdk_29_method_69_0) rfl k) ?_
  show own_E p e below _ s₁ (mkF m 1 #[iv p1, iv p2] [.int p1])
  refine own_st (fun t k => XS.iloadN X0.here hx rfl (hb hby own_d_jdk_29_method_69_1) rfl k) ?_
  show own_E p e below _ s₁ (mkF m 2 #[iv p1, iv p2] [.int p2, .int p1])
  by_cases hc1 : p2 < p1
  · refine own_st (fun t k => XS.icmpYes X0.here hx rfl (pc0 := 2) (pc' := 9) rfl (hb hby own_d_jdk_29_method_69_2) rfl (tlt hc1).2.2.1 (by decide) (by decide) k) ?_
    show own_E p e below _ s₁ (mkF m 9 #[iv p1, iv p2] [])
    refine own_st (fun t k => XS.iloadN X0.here hx rfl (hb hby own_d_jdk_29_method_69_9) rfl k) ?_
    show own_E p e below _ s₁ (mkF m 10 #[iv p1, iv p2] [.int p2])
    refine own_retI X0 hx Bd.notSynchronized Bd.returns (hb hby own_d_jdk_29_method_69_10) (by decide) (by decide) ?_
    exact ⟨(Or.inl ⟨rfl, hc1⟩), e0, rfl⟩
  · refine own_st (fun t k => XS.icmpNo X0.here hx rfl (hb hby own_d_jdk_29_method_69_2) rfl (flt hc1).2.2.1 k) ?_
    show own_E p e below _ s₁ (mkF m 5 #[iv p1, iv p2] [])
    refine own_st (fun t k => XS.iloadN X0.here hx rfl (hb hby own_d_jdk_29_method_69_5) rfl k) ?_
    show own_E p e below _ s₁ (mkF m 6 #[iv p1, iv p2] [.int p1])
    refine own_st (fun t k => XS.goto X0.here hx rfl (pc0 := 6) (pc' := 10) rfl (hb hby own_d_jdk_29_method_69_6) (by decide) (by decide) k) ?_
    show own_E p e below _ s₁ (mkF m 10 #[iv p1, iv p2] [.int p1])
    refine own_retI X0 hx Bd.notSynchronized Bd.returns (hb hby own_d_jdk_29_method_69_10) (by decide) (by decide) ?_
    exact ⟨(Or.inr ⟨rfl, hc1⟩), e0, rfl⟩
theorem own_d_jdk_65_method_123_0 : decode jdk_65_method_123_code 0 = .ok (.iload_n 1, 1) := by decide +kernel
theorem own_d_jdk_65_method_123_1 : decode jdk_65_method_123_code 1 = .ok (.aload_n 0, 1) := by decide +kernel
theorem own_d_jdk_65_method_123_2 : decode jdk_65_method_123_code 2 = .ok (.arraylength, 1) := by decide +kernel
theorem own_d_jdk_65_method_123_3 : decode jdk_65_method_123_code 3 = .ok (.if_icmp .ne 11, 3) := by decide +kernel
theorem own_d_jdk_65_method_123_14 : decode jdk_65_method_123_code 14 = .ok (.iload_n 1, 1) := by decide +kernel
theorem own_d_jdk_65_method_123_15 : decode jdk_65_method_123_code 15 = .ok (.newarray .int, 2) := by decide +kernel
theorem own_d_jdk_65_method_123_17 : decode jdk_65_method_123_code 17 = .ok (.astore_n 2, 1) := by decide +kernel
theorem own_d_jdk_65_method_123_18 : decode jdk_65_method_123_code 18 = .ok (.aload_n 0, 1) := by decide +kernel
theorem own_d_jdk_65_method_123_19 : decode jdk_65_method_123_code 19 = .ok (.iconst 0, 1) := by decide +kernel
theorem own_d_jdk_65_method_123_20 : decode jdk_65_method_123_code 20 = .ok (.aload_n 2, 1) := by decide +kernel
theorem own_d_jdk_65_method_123_21 : decode jdk_65_method_123_code 21 = .ok (.iconst 0, 1) := by decide +kernel
theorem own_d_jdk_65_method_123_22 : decode jdk_65_method_123_code 22 = .ok (.aload_n 0, 1) := by decide +kernel
theorem own_d_jdk_65_method_123_23 : decode jdk_65_method_123_code 23 = .ok (.arraylength, 1) := by decide +kernel
theorem own_d_jdk_65_method_123_24 : decode jdk_65_method_123_code 24 = .ok (.iload_n 1, 1) := by decide +kernel
theorem own_d_jdk_65_method_123_25 : decode jdk_65_method_123_code 25 = .ok (.invokestatic 304, 3) := by decide +kernel
theorem own_pd_4 : parseMethodDescriptor "(II)I" = some ⟨[.int, .int], some .int⟩ := by decide +kernel
theorem own_d_jdk_65_method_123_28 : decode jdk_65_method_123_code 28 = .ok (.invokestatic 150, 3) := by decide +kernel
theorem own_d_jdk_65_method_123_31 : decode jdk_65_method_123_code 31 = .ok (.aload_n 2, 1) := by decide +kernel
theorem own_d_jdk_65_method_123_32 : decode jdk_65_method_123_code 32 = .ok (.areturn, 1) := by decide +kernel
def own_copy_Q (Z : State) (a1 : Addr) (kc1 : ClassId) (ea0 : Int32) (ea1 : Int32) (ea2 : Int32) (ea3 : Int32) (ea4 : Int32) (ea5 : Int32) (ea6 : Int32) (ea7 : Int32) (ea8 : Int32) (ea9 : Int32) (ea10 : Int32) (ea11 : Int32) (ea12 : Int32) (ea13 : Int32) (ea14 : Int32) (ea15 : Int32) (h0 : Heap) (n0 : Nat) (v : Option Value) (h : Heap) (L : List Loc) : Prop := ∃ (o0 : Addr), ∃ (o1 : ClassId), v = some (.ref o0) ∧ Fr n0 L ∧ Keep h0 h [] ∧ h0.size ≤ o0 ∧ Arv Z h o0 o1 .int (32 : Int32) [(.int ea0), (.int ea1), (.int ea2), (.int ea3), (.int ea4), (.int ea5), (.int ea6), (.int ea7), (.int ea8), (.int ea9), (.int ea10), (.int ea11), (.int ea12), (.int ea13), (.int ea14), (.int ea15), (.int (0 : Int32)), (.int (0 : Int32)), (.int (0 : Int32)), (.int (0 : Int32)), (.int (0 : Int32)), (.int (0 : Int32)), (.int (0 : Int32)), (.int (0 : Int32)), (.int (0 : Int32)), (.int (0 : Int32)), (.int (0 : Int32)), (.int (0 : Int32)), (.int (0 : Int32)), (.int (0 : Int32)), (.int (0 : Int32)), (.int (0 : Int32))] (.int (0 : Int32))
abbrev own_y1 : MethodName := ⟨"java/util/Arrays", "copyOf", "([II)[I"⟩
theorem own_pn_Arrays : plainName "java/util/Arrays" = true := by first | (simp [plainName, overriddenIn]; done) | decide +kernel
theorem own_copy_ef (m : MethodId) (a1 : Addr) (kc1 : ClassId) (ea0 : Int32) (ea1 : Int32) (ea2 : Int32) (ea3 : Int32) (ea4 : Int32) (ea5 : Int32) (ea6 : Int32) (ea7 : Int32) (ea8 : Int32) (ea9 : Int32) (ea10 : Int32) (ea11 : Int32) (ea12 : Int32) (ea13 : Int32) (ea14 : Int32) (ea15 : Int32) : entryFrame m #[(.ref a1), (.int (32 : Int32))] 3 = mkF m 0 #[.val (.ref a1), .val (.int (32 : Int32)), .unset] [] := by first | (simp [entryFrame, mkF, argsToLocals, Value.category]; done) | rfl
set_option maxRecDepth 65536 in
set_option maxHeartbeats 40000000 in
theorem own_copy (l : Launch) (Z : State) (a0 : Array Value) (hw : ∀ d ∈ tables_1, d.before a0 Z = true) (ws : List Jvm.Cond) (a1 : Addr) (kc1 : ClassId) (ea0 : Int32) (ea1 : Int32) (ea2 : Int32) (ea3 : Int32) (ea4 : Int32) (ea5 : Int32) (ea6 : Int32) (ea7 : Int32) (ea8 : Int32) (ea9 : Int32) (ea10 : Int32) (ea11 : Int32) (ea12 : Int32) (ea13 : Int32) (ea14 : Int32) (ea15 : Int32) (h0 : Heap) (n0 : Nat) (Z0 : n0 ≤ h0.size) (V_a1 : Arv Z h0 a1 kc1 .int (16 : Int32) [(.int ea0), (.int ea1), (.int ea2), (.int ea3), (.int ea4), (.int ea5), (.int ea6), (.int ea7), (.int ea8), (.int ea9), (.int ea10), (.int ea11), (.int ea12), (.int ea13), (.int ea14), (.int ea15)] (.int (0 : Int32))) :
    MetFree l own_y1 (head1 (Jvm.Cond.code own_y1 jdk_65_method_123_code 3 (some (.array .int)) :: ws) ({ frames := 1, cells := 1, slots := 32, locals := 40 } : Room)) (fun a U => a = #[(.ref a1), (.int (32 : Int32))] ∧ Z.Warmed39 U.vm ∧ U.heap = h0) (fun _ _ _ _ _ => True) (fun _ U o U' => ∃ v L, o = .returned v ∧ own_copy_Q Z a1 kc1 ea0 ea1 ea2 ea3 ea4 ea5 ea6 ea7 ea8 ea9 ea10 ea11 ea12 ea13 ea14 ea15 h0 n0 v U'.heap L ∧ FrameEnd U o U' L ({ frames := 1, cells := 1, slots := 32, locals := 40 } : Room).cells ({ frames := 1, cells := 1, slots := 32, locals := 40 } : Room).slots) := by
  refine MetFree.of_bodySF (plainFor_of_name own_pn_Arrays) hisR ?_
  intro p e s m args below meth c s₁ Bd hml0 hP hK
  obtain ⟨rfl, hZ, hh⟩ := hP
  have hx := Bd.exec
  have hby := Bd.bytes
  have hml : c.maxLocals = 3 := hml0
  have hown : s.vm.findClass "java/util/Arrays" = some m.cls := findClass_of_methodNamed Bd.named
  have hnm := (name_of_methodNamed Bd.named Bd.method).1
  have X0 : Stand p l e ({ frames := 1, cells := 1, slots := 32, locals := 40 } : Room) s m #[(.ref a1), (.int (32 : Int32))] below meth c s₁ [] 0 0 := Stand.of_body Bd
  have e0 : s₁.heap = h0 := by rw [← hh, Bd.state]; rfl
  show own_E p e below (own_K (own_copy_Q Z a1 kc1 ea0 ea1 ea2 ea3 ea4 ea5 ea6 ea7 ea8 ea9 ea10 ea11 ea12 ea13 ea14 ea15 h0 n0) s ({ frames := 1, cells := 1, slots := 32, locals := 40 } : Room).cells ({ frames := 1, cells := 1, slots := 32, locals := 40 } : Room).slots) s₁ (entryFrame m #[(.ref a1), (.int (32 : Int32))] 3)
  refine own_pre (own_copy_ef m a1 kc1 ea0 ea1 ea2 ea3 ea4 ea5 ea6 ea7 ea8 ea9 ea10 ea11 ea12 ea13 ea14 ea15) ?_
  show own_E p e below _ s₁ (mkF m 0 #[rv a1, iv 32, .unset] [])
  refine own_st (fun t k => XS.iloadN X0.here hx rfl (hb hby own_d_jdk_65_method_123_0) rfl k) ?_
  show own_E p e below _ s₁ (mkF m 1 #[rv a1, iv 32, .unset] [.int 32])
  refine own_st (fun t k => XS.aloadN X0.here hx rfl (hb hby own_d_jdk_65_method_123_1) rfl rfl k) ?_
  show own_E p e below _ s₁ (mkF m 2 #[rv a1, iv 32, .unset] [.ref a1, .int 32])
  refine own_st (own_alen X0 hx hZ e0 V_a1 (g := (mkF m 2 #[rv a1, iv 32, .unset] [.ref a1, .int 32])) rfl rfl (hb hby own_d_jdk_65_method_123_2)) ?_
  show own_E p e below _ s₁ (mkF m 3 #[rv a1, iv 32, .unset] [.int 16, .int 32])
  refine own_st (fun t k => XS.icmpYes X0.here hx rfl (pc0 := 3) (pc' := 14) rfl (hb hby own_d_jdk_65_method_123_3) rfl (by decide) (by decide) (by decide) k) ?_
  show own_E p e below _ s₁ (mkF m 14 #[rv a1, iv 32, .unset] [])
  refine own_st (fun t k => XS.iloadN X0.here hx rfl (hb hby own_d_jdk_65_method_123_14) rfl k) ?_
  show own_E p e below _ s₁ (mkF m 15 #[rv a1, iv 32, .unset] [.int 32])
  obtain ⟨T1, h1, k1, X1, e1, E1, A1, st1⟩ := newP X0 hx hZ (own_w hw 10 rfl) e0 (g := (mkF m 15 #[rv a1, iv 32, .unset] [.int 32])) rfl (hb hby own_d_jdk_65_method_123_15) rfl (by decide) (cap := 32) (by decide) (by decide) (by decide) (by decide)
  obtain ⟨b1, g1⟩ : ∃ z, z = h0.size := ⟨_, rfl⟩
  rw [← g1] at A1 st1
  have ne_a1_b1 : a1 ≠ b1 := Nat.ne_of_lt (Nat.lt_of_lt_of_le V_a1.lt (Nat.le_of_eq g1.symm))
  have g_b1 : n0 ≤ b1 := Nat.le_trans Z0 (Nat.le_of_eq g1.symm)
  have sz_b1 : h0.size ≤ b1 := Nat.le_trans (Keep.refl h0 []).1 (Nat.le_of_eq g1.symm)
  have Z2 := Nat.le_trans Z0 E1.1
  have K3 : Keep h0 _ [] := (Keep.refl h0 []).ext E1
  have V1 : Arv Z h1 b1 k1 .int (32 : Int32) [(.int (0 : Int32)), (.int (0 : Int32)), (.int (0 : Int32)), (.int (0 : Int32)), (.int (0 : Int32)), (.int (0 : Int32)), (.int (0 : Int32)), (.int (0 : Int32)), (.int (0 : Int32)), (.int (0 : Int32)), (.int (0 : Int32)), (.int (0 : Int32)), (.int (0 : Int32)), (.int (0 : Int32)), (.int (0 : Int32)), (.int (0 : Int32)), (.int (0 : Int32)), (.int (0 : Int32)), (.int (0 : Int32)), (.int (0 : Int32)), (.int (0 : Int32)), (.int (0 : Int32)), (.int (0 : Int32)), (.int (0 : Int32)), (.int (0 : Int32)), (.int (0 : Int32)), (.int (0 : Int32)), (.int (0 : Int32)), (.int (0 : Int32)), (.int (0 : Int32)), (.int (0 : Int32)), (.int (0 : Int32))] (.int (0 : Int32)) := (Arv.new A1 (by decide)).pad (pad_rep [] (.int (0 : Int32)) 32)
  refine own_st st1 ?_
  show own_E p e below _ T1 (mkF m 17 #[rv a1, iv 32, .unset] [.ref b1])
  refine own_st (fun t k => XS.astoreN X1.here hx rfl (hb hby own_d_jdk_65_method_123_17) rfl rfl (l' := #[rv a1, iv 32, rv b1]) rfl k) ?_
  show own_E p e below _ T1 (mkF m 18 #[rv a1, iv 32, rv b1] [])
  refine own_st (fun t k => XS.aloadN X1.here hx rfl (hb hby own_d_jdk_65_method_123_18) rfl rfl k) ?_
  show own_E p e below _ T1 (mkF m 19 #[rv a1, iv 32, rv b1] [.ref a1])
  refine own_st (fun t k => XS.iconst X1.here hx rfl (hb hby own_d_jdk_65_method_123_19) k) ?_
  show own_E p e below _ T1 (mkF m 20 #[rv a1, iv 32, rv b1] [.int 0, .ref a1])
  refine own_st (fun t k => XS.aloadN X1.here hx rfl (hb hby own_d_jdk_65_method_123_20) rfl rfl k) ?_
  show own_E p e below _ T1 (mkF m 21 #[rv a1, iv 32, rv b1] [.ref b1, .int 0, .ref a1])
  refine own_st (fun t k => XS.iconst X1.here hx rfl (hb hby own_d_jdk_65_method_123_21) k) ?_
  show own_E p e below _ T1 (mkF m 22 #[rv a1, iv 32, rv b1] [.int 0, .ref b1, .int 0, .ref a1])
  refine own_st (fun t k => XS.aloadN X1.here hx rfl (hb hby own_d_jdk_65_method_123_22) rfl rfl k) ?_
  show own_E p e below _ T1 (mkF m 23 #[rv a1, iv 32, rv b1] [.ref a1, .int 0, .ref b1, .int 0, .ref a1])
  have B4 := (V_a1.ext E1)
  refine own_st (own_alen X1 hx hZ e1 B4 (g := (mkF m 23 #[rv a1, iv 32, rv b1] [.ref a1, .int 0, .ref b1, .int 0, .ref a1])) rfl rfl (hb hby own_d_jdk_65_method_123_23)) ?_
  show own_E p e below _ T1 (mkF m 24 #[rv a1, iv 32, rv b1] [.int 16, .int 0, .ref b1, .int 0, .ref a1])
  refine own_st (fun t k => XS.iloadN X1.here hx rfl (hb hby own_d_jdk_65_method_123_24) rfl k) ?_
  show own_E p e below _ T1 (mkF m 25 #[rv a1, iv 32, rv b1] [.int 32, .int 16, .int 0, .ref b1, .int 0, .ref a1])
  obtain ⟨_, _, ⟨T5, L5, k5, n5⟩, -, X5, ⟨Lc5, hQ5, l5, y5, z5⟩, st5⟩ := Jvm.LawKit.callS X1 hx (y := own_y0) hown (mvT hZ (own_w hw 44 rfl)) (mvT hZ (own_w hw 45 rfl)) (mvT hZ (own_w hw 46 rfl)) (mvT hZ (own_w hw 47 rfl)) (by decide) (backOf (W := 4) (own_min l Z a0 hw [] (16 : Int32) (32 : Int32) h1 n0 Z2 ) hZ (own_w hw 47 rfl) (own_w hw 46 rfl) (by decide) (by decide)) (g := (mkF m 25 #[rv a1, iv 32, rv b1] [.int 32, .int 16, .int 0, .ref b1, .int 0, .ref a1])) rfl (by rw [hml]; rfl) (argsL := [(.int (16 : Int32)), (.int (32 : Int32))]) (rest := [(.int (0 : Int32)), (.ref b1), (.int (0 : Int32)), (.ref a1)]) (lenOf own_pd_4 rfl) rfl (by show 2 * 0 + _ ≤ _; exact Nat.le_of_eq rfl) (hb hby own_d_jdk_65_method_123_25) (fun _ _ => ⟨rfl, e1, (by decide : 1 + 0 ≤ _), (by decide : 32 + 0 ≤ _)⟩)
  dsimp only [Pt.U, Pt.locs, Pt.cells, Pt.slots] at X5 l5 y5 z5 st5 hQ5
  subst l5 y5 z5
  obtain ⟨hR5, e5, rfl⟩ := hQ5
  have N5 := Fr.app (Fr.nil n0) (Fr.nil n0)
  rcases hR5 with ⟨rfl, ha5_0⟩ | ⟨rfl, ha5_0⟩
  · exact absurd ha5_0 (by decide)
  · refine own_st st5 ?_
    show own_E p e below _ T5 (mkF m 28 #[rv a1, iv 32, rv b1] [.int 16, .int 0, .ref b1, .int 0, .ref a1])
    obtain ⟨T6, h6, L6, X6, e6, N6, K6, Vw6, st6⟩ := cpA X5 hx hZ hown (own_w hw 48 rfl) (own_w hw 51 rfl) (own_w hw 49 rfl) (own_w hw 50 rfl) e5 (sp := (0 : Int32)) (dp := (0 : Int32)) (nn := (16 : Int32)) (us := [(.int ea0), (.int ea1), (.int ea2), (.int ea3), (.int ea4), (.int ea5), (.int ea6), (.int ea7), (.int ea8), (.int ea9), (.int ea10), (.int ea11), (.int ea12), (.int ea13), (.int ea14), (.int ea15)]) B4 V1 (Or.inl ⟨rfl, rfl⟩) (by decide) (by decide) (by decide) (by decide) (by decide) rfl (Nat.le_of_ble_eq_true rfl) N5 g_b1 (g := (mkF m 28 #[rv a1, iv 32, rv b1] [.int 16, .int 0, .ref b1, .int 0, .ref a1])) rfl (by rw [hml]; rfl) rfl (hb hby own_d_jdk_65_method_123_28) (by decide) (W := 0) (by show 2 * 0 + _ ≤ _; exact Nat.le_of_eq rfl) (by decide)
    have V6 : Arv Z h6 b1 k1 .int (32 : Int32) [(.int ea0), (.int ea1), (.int ea2), (.int ea3), (.int ea4), (.int ea5), (.int ea6), (.int ea7), (.int ea8), (.int ea9), (.int ea10), (.int ea11), (.int ea12), (.int ea13), (.int ea14), (.int ea15), (.int (0 : Int32)), (.int (0 : Int32)), (.int (0 : Int32)), (.int (0 : Int32)), (.int (0 : Int32)), (.int (0 : Int32)), (.int (0 : Int32)), (.int (0 : Int32)), (.int (0 : Int32)), (.int (0 : Int32)), (.int (0 : Int32)), (.int (0 : Int32)), (.int (0 : Int32)), (.int (0 : Int32)), (.int (0 : Int32)), (.int (0 : Int32))] (.int (0 : Int32)) := Vw6
    have Z7 := Nat.le_trans Z2 K6.1
    have K8 : Keep h0 _ [] := K3.trans K6 (allS (P := fun x => x ∈ [] ∨ h0.size ≤ x) (Or.inr sz_b1) all0)
    refine own_st st6 ?_
    show own_E p e below _ T6 (mkF m 31 #[rv a1, iv 32, rv b1] [])
    refine own_st (fun t k => XS.aloadN X6.here hx rfl (hb hby own_d_jdk_65_method_123_31) rfl rfl k) ?_
    show own_E p e below _ T6 (mkF m 32 #[rv a1, iv 32, rv b1] [.ref b1])
    refine own_retA X6 hx Bd.notSynchronized Bd.returns rfl rfl (hb hby own_d_jdk_65_method_123_32) (by decide) (by decide) ?_
    show own_copy_Q Z a1 kc1 ea0 ea1 ea2 ea3 ea4 ea5 ea6 ea7 ea8 ea9 ea10 ea11 ea12 ea13 ea14 ea15 h0 n0 _ T6.heap _
    rw [e6]
    exact ⟨b1, k1, rfl, N6, K8, sz_b1, V6⟩
theorem own_d_prog_14_method_1_0 : decode prog_14_method_1_code 0 = .ok (.aload_n 0, 1) := by decide +kernel
theorem own_d_prog_14_method_1_1 : decode prog_14_method_1_code 1 = .ok (.invokespecial 1, 3) := by decide +kernel
theorem own_d_prog_14_method_1_4 : decode prog_14_method_1_code 4 = .ok (.aload_n 0, 1) := by decide +kernel
theorem own_d_prog_14_method_1_5 : decode prog_14_method_1_code 5 = .ok (.bipush 16, 2) := by decide +kernel
theorem own_d_prog_14_method_1_7 : decode prog_14_method_1_code 7 = .ok (.newarray .int, 2) := by decide +kernel
theorem own_d_prog_14_method_1_9 : decode prog_14_method_1_code 9 = .ok (.putfield 7, 3) := by decide +kernel
theorem own_d_prog_14_method_1_12 : decode prog_14_method_1_code 12 = .ok (.return_, 1) := by decide +kernel
def own_init_Q (Z : State) (a1 : Addr) (h0 : Heap) (n0 : Nat) (v : Option Value) (h : Heap) (L : List Loc) : Prop := ∃ (o0 : Addr), ∃ (o1 : ClassId), v = none ∧ Fr n0 L ∧ Keep h0 h [a1] ∧ h0.size ≤ o0 ∧ Exa Z h a1 "com/example/kalchas/kalchas/IntList" ∧ Fld Z h a1 "com/example/kalchas/kalchas/IntList" "values" "[I" (.ref o0) ∧ Fld Z h a1 "com/example/kalchas/kalchas/IntList" "size" "I" (.int (0 : Int32)) ∧ Arv Z h o0 o1 .int (16 : Int32) [(.int (0 : Int32)), (.int (0 : Int32)), (.int (0 : Int32)), (.int (0 : Int32)), (.int (0 : Int32)), (.int (0 : Int32)), (.int (0 : Int32)), (.int (0 : Int32)), (.int (0 : Int32)), (.int (0 : Int32)), (.int (0 : Int32)), (.int (0 : Int32)), (.int (0 : Int32)), (.int (0 : Int32)), (.int (0 : Int32)), (.int (0 : Int32))] (.int (0 : Int32))
abbrev own_y2 : MethodName := ⟨"com/example/kalchas/kalchas/IntList", "<init>", "()V"⟩
theorem own_pn_IntList : plainName "com/example/kalchas/kalchas/IntList" = true := by first | (simp [plainName, overriddenIn]; done) | decide +kernel
theorem own_init_ef (m : MethodId) (a1 : Addr) : entryFrame m #[(.ref a1)] 1 = mkF m 0 #[.val (.ref a1)] [] := by first | (simp [entryFrame, mkF, argsToLocals, Value.category]; done) | rfl
set_option maxRecDepth 65536 in
set_option maxHeartbeats 40000000 in
theorem own_init (l : Launch) (Z : State) (a0 : Array Value) (hw : ∀ d ∈ tables_1, d.before a0 Z = true) (ws : List Jvm.Cond) (a1 : Addr) (h0 : Heap) (n0 : Nat) (Z0 : n0 ≤ h0.size) (E_a1 : Exa Z h0 a1 "com/example/kalchas/kalchas/IntList") (F_values_a1 : Fld Z h0 a1 "com/example/kalchas/kalchas/IntList" "values" "[I" .null) (F_size_a1 : Fld Z h0 a1 "com/example/kalchas/kalchas/IntList" "size" "I" (.int (0 : Int32))) (g_a1 : n0 ≤ a1) :
    MetFree l own_y2 (head1 (Jvm.Cond.code own_y2 prog_14_method_1_code 1 none :: ws) ({ frames := 1, cells := 1, slots := 16, locals := 12 } : Room)) (fun a U => a = #[(.ref a1)] ∧ Z.Warmed39 U.vm ∧ U.heap = h0) (fun _ _ _ _ _ => True) (fun _ U o U' => ∃ v L, o = .returned v ∧ own_init_Q Z a1 h0 n0 v U'.heap L ∧ FrameEnd U o U' L ({ frames := 1, cells := 1, slots := 16, locals := 12 } : Room).cells ({ frames := 1, cells := 1, slots := 16, locals := 12 } : Room).slots) := by
  refine MetFree.of_bodySF (plainFor_of_name own_pn_IntList) hisR ?_
  intro p e s m args below meth c s₁ Bd hml0 hP hK
  obtain ⟨rfl, hZ, hh⟩ := hP
  have hx := Bd.exec
  have hby := Bd.bytes
  have hml : c.maxLocals = 1 := hml0
  have hown : s.vm.findClass "com/example/kalchas/kalchas/IntList" = some m.cls := findClass_of_methodNamed Bd.named
  have hnm := (name_of_methodNamed Bd.named Bd.method).1
  have X0 : Stand p l e ({ frames := 1, cells := 1, slots := 16, locals := 12 } : Room) s m #[(.ref a1)] below meth c s₁ [] 0 0 := Stand.of_body Bd
  have e0 : s₁.heap = h0 := by rw [← hh, Bd.state]; rfl
  show own_E p e below (own_K (own_init_Q Z a1 h0 n0) s ({ frames := 1, cells := 1, slots := 16, locals := 12 } : Room).cells ({ frames := 1, cells := 1, slots := 16, locals := 12 } : Room).slots) s₁ (entryFrame m #[(.ref a1)] 1)
  refine own_pre (own_init_ef m a1) ?_
  show own_E p e below _ s₁ (mkF m 0 #[rv a1] [])
  refine own_st (fun t k => XS.aloadN X0.here hx rfl (hb hby own_d_prog_14_method_1_0) rfl rfl k) ?_
  show own_E p e below _ s₁ (mkF m 1 #[rv a1] [.ref a1])
  obtain ⟨T1, X1, e1, st1⟩ := initO X0 hx hZ hown (own_w hw 7 rfl) (own_w hw 8 rfl) (own_w hw 9 rfl) e0 (g := (mkF m 1 #[rv a1] [.ref a1])) rfl (by rw [hml]; rfl) rfl (hb hby own_d_prog_14_method_1_1) (by decide) (W := 0) (by show 2 * 0 + _ ≤ _; exact Nat.le_of_eq rfl) (by decide)
  refine own_st st1 ?_
  show own_E p e below _ T1 (mkF m 4 #[rv a1] [])
  refine own_st (fun t k => XS.aloadN X1.here hx rfl (hb hby own_d_prog_14_method_1_4) rfl rfl k) ?_
  show own_E p e below _ T1 (mkF m 5 #[rv a1] [.ref a1])
  refine own_st (fun t k => XS.bipush X1.here hx rfl (hb hby own_d_prog_14_method_1_5) k) ?_
  show own_E p e below _ T1 (mkF m 7 #[rv a1] [.int 16, .ref a1])
  obtain ⟨T2, h2, k2, X2, e2, E2, A2, st2⟩ := newP X1 hx hZ (own_w hw 10 rfl) e1 (g := (mkF m 7 #[rv a1] [.int 16, .ref a1])) rfl (hb hby own_d_prog_14_method_1_7) rfl (by decide) (cap := 16) (by decide) (by decide) (by decide) (by decide)
  obtain ⟨b2, g2⟩ : ∃ z, z = h0.size := ⟨_, rfl⟩
  rw [← g2] at A2 st2
  have ne_a1_b2 : a1 ≠ b2 := Nat.ne_of_lt (Nat.lt_of_lt_of_le E_a1.lt (Nat.le_of_eq g2.symm))
  have g_b2 : n0 ≤ b2 := Nat.le_trans Z0 (Nat.le_of_eq g2.symm)
  have sz_b2 : h0.size ≤ b2 := Nat.le_trans (Keep.refl h0 [a1]).1 (Nat.le_of_eq g2.symm)
  have Z3 := Nat.le_trans Z0 E2.1
  have K4 : Keep h0 _ [a1] := (Keep.refl h0 [a1]).ext E2
  have V2 : Arv Z h2 b2 k2 .int (16 : Int32) [(.int (0 : Int32)), (.int (0 : Int32)), (.int (0 : Int32)), (.int (0 : Int32)), (.int (0 : Int32)), (.int (0 : Int32)), (.int (0 : Int32)), (.int (0 : Int32)), (.int (0 : Int32)), (.int (0 : Int32)), (.int (0 : Int32)), (.int (0 : Int32)), (.int (0 : Int32)), (.int (0 : Int32)), (.int (0 : Int32)), (.int (0 : Int32))] (.int (0 : Int32)) := (Arv.new A2 (by decide)).pad (pad_rep [] (.int (0 : Int32)) 16)
  refine own_st st2 ?_
  show own_E p e below _ T2 (mkF m 9 #[rv a1] [.ref b2, .ref a1])
  have B6 := (F_values_a1.ext E2)
  have B7 := (E_a1.ext E2)
  obtain ⟨T5, h5, X5, e5, W5, st5⟩ := putF X2 hx hZ hown (host := "") (Or.inl (own_w hw 11 rfl)) Via.refl e2 B6 B7 (Or.inl (own_w hw 12 rfl)) (own_w hw 2 rfl) (ty := (.array .int)) (by decide) rfl rfl (g := (mkF m 9 #[rv a1] [.ref b2, .ref a1])) rfl rfl (hb hby own_d_prog_14_method_1_9)
  have N5 := Fr.snoc X5 (Fr.nil n0) g_a1
  have Fw5 := B6.same W5
  have Z8 := Nat.le_trans Z3 (Keep.of_wr W5).1
  have K9 : Keep h0 _ [a1] := K4.wr W5 (Or.inl (List.mem_of_getElem? (i := 0) rfl))
  refine own_st st5 ?_
  show own_E p e below _ T5 (mkF m 12 #[rv a1] [])
  refine own_retV X5 hx Bd.notSynchronized Bd.returns (hb hby own_d_prog_14_method_1_12) (by decide) (by decide) ?_
  have B10 := (B7.wr W5)
  have B11 := ((F_size_a1.ext E2).other W5 (Or.inr (slot_ne (Or.inl (own_w hw 19 rfl)) (Or.inl (own_w hw 12 rfl)) (by decide) (t := .int) (t' := (.array .int)) (by decide) (by decide))))
  have B12 := (V2.other W5 (Ne.symm ne_a1_b2))
  show own_init_Q Z a1 h0 n0 _ T5.heap _
  rw [e5]
  exact ⟨b2, k2, rfl, N5, K9, sz_b2, B10, Fw5, B11, B12⟩
theorem own_d_prog_14_method_4_0 : decode prog_14_method_4_code 0 = .ok (.aload_n 0, 1) := by decide +kernel
theorem own_d_prog_14_method_4_1 : decode prog_14_method_4_code 1 = .ok (.iload_n 1, 1) := by decide +kernel
theorem own_d_prog_14_method_4_2 : decode prog_14_method_4_code 2 = .ok (.putfield 13, 3) := by decide +kernel
theorem own_d_prog_14_method_4_5 : decode prog_14_method_4_code 5 = .ok (.return_, 1) := by decide +kernel
def own_trunc_Q (Z : State) (a1 : Addr) (a2 : Addr) (p1 : Int32) (p2 : Int32) (h0 : Heap) (n0 : Nat) (v : Option Value) (h : Heap) (L : List Loc) : Prop := v = none ∧ Fr n0 L ∧ Keep h0 h [a1] ∧ Exa Z h a1 "com/example/kalchas/kalchas/IntList" ∧ Fld Z h a1 "com/example/kalchas/kalchas/IntList" "values" "[I" (.ref a2) ∧ Fld Z h a1 "com/example/kalchas/kalchas/IntList" "size" "I" (.int p1)
abbrev own_y3 : MethodName := ⟨"com/example/kalchas/kalchas/IntList", "truncate", "(I)V"⟩
theorem own_trunc_ef (m : MethodId) (a1 : Addr) (a2 : Addr) (p1 : Int32) (p2 : Int32) : entryFrame m #[(.ref a1), (.int p1)] 2 = mkF m 0 #[.val (.ref a1), .val (.int p1)] [] := by first | (simp [entryFrame, mkF, argsToLocals, Value.category]; done) | rfl
set_option maxRecDepth 65536 in
set_option maxHeartbeats 40000000 in
theorem own_trunc (l : Launch) (Z : State) (a0 : Array Value) (hw : ∀ d ∈ tables_1, d.before a0 Z = true) (ws : List Jvm.Cond) (a1 : Addr) (a2 : Addr) (p1 : Int32) (p2 : Int32) (h0 : Heap) (n0 : Nat) (Z0 : n0 ≤ h0.size) (E_a1 : Exa Z h0 a1 "com/example/kalchas/kalchas/IntList") (F_values_a1 : Fld Z h0 a1 "com/example/kalchas/kalchas/IntList" "values" "[I" (.ref a2)) (F_size_a1 : Fld Z h0 a1 "com/example/kalchas/kalchas/IntList" "size" "I" (.int p2)) (g_a1 : n0 ≤ a1) :
    MetFree l own_y3 (head1 (Jvm.Cond.code own_y3 prog_14_method_4_code 2 none :: ws) ({ frames := 0, cells := 0, slots := 0, locals := 0 } : Room)) (fun a U => a = #[(.ref a1), (.int p1)] ∧ Z.Warmed39 U.vm ∧ U.heap = h0) (fun _ _ _ _ _ => True) (fun _ U o U' => ∃ v L, o = .returned v ∧ own_trunc_Q Z a1 a2 p1 p2 h0 n0 v U'.heap L ∧ FrameEnd U o U' L ({ frames := 0, cells := 0, slots := 0, locals := 0 } : Room).cells ({ frames := 0, cells := 0, slots := 0, locals := 0 } : Room).slots) := by
  refine MetFree.of_bodySF (plainFor_of_name own_pn_IntList) hisR ?_
  intro p e s m args below meth c s₁ Bd hml0 hP hK
  obtain ⟨rfl, hZ, hh⟩ := hP
  have hx := Bd.exec
  have hby := Bd.bytes
  have hml : c.maxLocals = 2 := hml0
  have hown : s.vm.findClass "com/example/kalchas/kalchas/IntList" = some m.cls := findClass_of_methodNamed Bd.named
  have hnm := (name_of_methodNamed Bd.named Bd.method).1
  have X0 : Stand p l e ({ frames := 0, cells := 0, slots := 0, locals := 0 } : Room) s m #[(.ref a1), (.int p1)] below meth c s₁ [] 0 0 := Stand.of_body Bd
  have e0 : s₁.heap = h0 := by rw [← hh, Bd.state]; rfl
  show own_E p e below (own_K (own_trunc_Q Z a1 a2 p1 p2 h0 n0) s ({ frames := 0, cells := 0, slots := 0, locals := 0 } : Room).cells ({ frames := 0, cells := 0, slots := 0, locals := 0 } : Room).slots) s₁ (entryFrame m #[(.ref a1), (.int p1)] 2)
  refine own_pre (own_trunc_ef m a1 a2 p1 p2) ?_
  show own_E p e below _ s₁ (mkF m 0 #[rv a1, iv p1] [])
  refine own_st (fun t k => XS.aloadN X0.here hx rfl (hb hby own_d_prog_14_method_4_0) rfl rfl k) ?_
  show own_E p e below _ s₁ (mkF m 1 #[rv a1, iv p1] [.ref a1])
  refine own_st (fun t k => XS.iloadN X0.here hx rfl (hb hby own_d_prog_14_method_4_1) rfl k) ?_
  show own_E p e below _ s₁ (mkF m 2 #[rv a1, iv p1] [.int p1, .ref a1])
  obtain ⟨T1, h1, X1, e1, W1, st1⟩ := putF X0 hx hZ hown (host := "") (Or.inl (own_w hw 18 rfl)) Via.refl e0 F_size_a1 E_a1 (Or.inl (own_w hw 19 rfl)) (own_w hw 2 rfl) (ty := .int) (by decide) rfl rfl (g := (mkF m 2 #[rv a1, iv p1] [.int p1, .ref a1])) rfl rfl (hb hby own_d_prog_14_method_4_2)
  have N1 := Fr.snoc X1 (Fr.nil n0) g_a1
  have Fw1 := F_size_a1.same W1
  have Z2 := Nat.le_trans Z0 (Keep.of_wr W1).1
  have K3 : Keep h0 _ [a1] := (Keep.refl h0 [a1]).wr W1 (Or.inl (List.mem_of_getElem? (i := 0) rfl))
  refine own_st st1 ?_
  show own_E p e below _ T1 (mkF m 5 #[rv a1, iv p1] [])
  refine own_retV X1 hx Bd.notSynchronized Bd.returns (hb hby own_d_prog_14_method_4_5) (by decide) (by decide) ?_
  have B4 := (E_a1.wr W1)
  have B5 := (F_values_a1.other W1 (Or.inr (slot_ne (Or.inl (own_w hw 12 rfl)) (Or.inl (own_w hw 19 rfl)) (by decide) (t := (.array .int)) (t' := .int) (by decide) (by decide))))
  show own_trunc_Q Z a1 a2 p1 p2 h0 n0 _ T1.heap _
  rw [e1]
  exact ⟨rfl, N1, K3, B4, B5, Fw1⟩
theorem own_d_prog_14_method_3_0 : decode prog_14_method_3_code 0 = .ok (.aload_n 0, 1) := by decide +kernel
theorem own_d_prog_14_method_3_1 : decode prog_14_method_3_code 1 = .ok (.getfield 7, 3) := by decide +kernel
theorem own_d_prog_14_method_3_4 : decode prog_14_method_3_code 4 = .ok (.iload_n 1, 1) := by decide +kernel
theorem own_d_prog_14_method_3_5 : decode prog_14_method_3_code 5 = .ok (.iload_n 2, 1) := by decide +kernel
theorem own_d_prog_14_method_3_6 : decode prog_14_method_3_code 6 = .ok (.iastore, 1) := by decide +kernel
theorem own_d_prog_14_method_3_7 : decode prog_14_method_3_code 7 = .ok (.return_, 1) := by decide +kernel
def own_set0_Q (Z : State) (a1 : Addr) (a2 : Addr) (kc1 : ClassId) (p1 : Int32) (ea0 : Int32) (ea1 : Int32) (ea2 : Int32) (ea3 : Int32) (ea4 : Int32) (ea5 : Int32) (ea6 : Int32) (ea7 : Int32) (ea8 : Int32) (ea9 : Int32) (ea10 : Int32) (ea11 : Int32) (ea12 : Int32) (ea13 : Int32) (ea14 : Int32) (ea15 : Int32) (h0 : Heap) (n0 : Nat) (v : Option Value) (h : Heap) (L : List Loc) : Prop := v = none ∧ Fr n0 L ∧ Keep h0 h [a2] ∧ Arv Z h a2 kc1 .int (16 : Int32) [(.int p1), (.int ea1), (.int ea2), (.int ea3), (.int ea4), (.int ea5), (.int ea6), (.int ea7), (.int ea8), (.int ea9), (.int ea10), (.int ea11), (.int ea12), (.int ea13), (.int ea14), (.int ea15)] (.int (0 : Int32))
abbrev own_y4 : MethodName := ⟨"com/example/kalchas/kalchas/IntList", "set", "(II)V"⟩
theorem own_set0_ef (m : MethodId) (a1 : Addr) (a2 : Addr) (kc1 : ClassId) (p1 : Int32) (ea0 : Int32) (ea1 : Int32) (ea2 : Int32) (ea3 : Int32) (ea4 : Int32) (ea5 : Int32) (ea6 : Int32) (ea7 : Int32) (ea8 : Int32) (ea9 : Int32) (ea10 : Int32) (ea11 : Int32) (ea12 : Int32) (ea13 : Int32) (ea14 : Int32) (ea15 : Int32) : entryFrame m #[(.ref a1), (.int (0 : Int32)), (.int p1)] 3 = mkF m 0 #[.val (.ref a1), .val (.int (0 : Int32)), .val (.int p1)] [] := by first | (simp [entryFrame, mkF, argsToLocals, Value.category]; done) | rfl
set_option maxRecDepth 65536 in
set_option maxHeartbeats 40000000 in
theorem own_set0 (l : Launch) (Z : State) (a0 : Array Value) (hw : ∀ d ∈ tables_1, d.before a0 Z = true) (ws : List Jvm.Cond) (a1 : Addr) (a2 : Addr) (kc1 : ClassId) (p1 : Int32) (ea0 : Int32) (ea1 : Int32) (ea2 : Int32) (ea3 : Int32) (ea4 : Int32) (ea5 : Int32) (ea6 : Int32) (ea7 : Int32) (ea8 : Int32) (ea9 : Int32) (ea10 : Int32) (ea11 : Int32) (ea12 : Int32) (ea13 : Int32) (ea14 : Int32) (ea15 : Int32) (h0 : Heap) (n0 : Nat) (Z0 : n0 ≤ h0.size) (F_values_a1 : Fld Z h0 a1 "com/example/kalchas/kalchas/IntList" "values" "[I" (.ref a2)) (V_a2 : Arv Z h0 a2 kc1 .int (16 : Int32) [(.int ea0), (.int ea1), (.int ea2), (.int ea3), (.int ea4), (.int ea5), (.int ea6), (.int ea7), (.int ea8), (.int ea9), (.int ea10), (.int ea11), (.int ea12), (.int ea13), (.int ea14), (.int ea15)] (.int (0 : Int32))) (ne12 : a1 ≠ a2) (g_a2 : n0 ≤ a2) :
    MetFree l own_y4 (head1 (Jvm.Cond.code own_y4 prog_14_method_3_code 3 none :: ws) ({ frames := 0, cells := 0, slots := 0, locals := 0 } : Room)) (fun a U => a = #[(.ref a1), (.int (0 : Int32)), (.int p1)] ∧ Z.Warmed39 U.vm ∧ U.heap = h0) (fun _ _ _ _ _ => True) (fun _ U o U' => ∃ v L, o = .returned v ∧ own_set0_Q Z a1 a2 kc1 p1 ea0 ea1 ea2 ea3 ea4 ea5 ea6 ea7 ea8 ea9 ea10 ea11 ea12 ea13 ea14 ea15 h0 n0 v U'.heap L ∧ FrameEnd U o U' L ({ frames := 0, cells := 0, slots := 0, locals := 0 } : Room).cells ({ frames := 0, cells := 0, slots := 0, locals := 0 } : Room).slots) := by
  refine MetFree.of_bodySF (plainFor_of_name own_pn_IntList) hisR ?_
  intro p e s m args below meth c s₁ Bd hml0 hP hK
  obtain ⟨rfl, hZ, hh⟩ := hP
  have hx := Bd.exec
  have hby := Bd.bytes
  have hml : c.maxLocals = 3 := hml0
  have hown : s.vm.findClass "com/example/kalchas/kalchas/IntList" = some m.cls := findClass_of_methodNamed Bd.named
  have hnm := (name_of_methodNamed Bd.named Bd.method).1
  have X0 : Stand p l e ({ frames := 0, cells := 0, slots := 0, locals := 0 } : Room) s m #[(.ref a1), (.int (0 : Int32)), (.int p1)] below meth c s₁ [] 0 0 := Stand.of_body Bd
  have e0 : s₁.heap = h0 := by rw [← hh, Bd.state]; rfl
  show own_E p e below (own_K (own_set0_Q Z a1 a2 kc1 p1 ea0 ea1 ea2 ea3 ea4 ea5 ea6 ea7 ea8 ea9 ea10 ea11 ea12 ea13 ea14 ea15 h0 n0) s ({ frames := 0, cells := 0, slots := 0, locals := 0 } : Room).cells ({ frames := 0, cells := 0, slots := 0, locals := 0 } : Room).slots) s₁ (entryFrame m #[(.ref a1), (.int (0 : Int32)), (.int p1)] 3)
  refine own_pre (own_set0_ef m a1 a2 kc1 p1 ea0 ea1 ea2 ea3 ea4 ea5 ea6 ea7 ea8 ea9 ea10 ea11 ea12 ea13 ea14 ea15) ?_
  show own_E p e below _ s₁ (mkF m 0 #[rv a1, iv 0, iv p1] [])
  refine own_st (fun t k => XS.aloadN X0.here hx rfl (hb hby own_d_prog_14_method_3_0) rfl rfl k) ?_
  show own_E p e below _ s₁ (mkF m 1 #[rv a1, iv 0, iv p1] [.ref a1])
  obtain ⟨T1, X1, e1, st1⟩ := getF X0 hx hZ hown (host := "") (Or.inl (own_w hw 11 rfl)) Via.refl e0 F_values_a1 (g := (mkF m 1 #[rv a1, iv 0, iv p1] [.ref a1])) rfl rfl (hb hby own_d_prog_14_method_3_1)
  refine own_st st1 ?_
  show own_E p e below _ T1 (mkF m 4 #[rv a1, iv 0, iv p1] [.ref a2])
  refine own_st (fun t k => XS.iloadN X1.here hx rfl (hb hby own_d_prog_14_method_3_4) rfl k) ?_
  show own_E p e below _ T1 (mkF m 5 #[rv a1, iv 0, iv p1] [.int 0, .ref a2])
  refine own_st (fun t k => XS.iloadN X1.here hx rfl (hb hby own_d_prog_14_method_3_5) rfl k) ?_
  show own_E p e below _ T1 (mkF m 6 #[rv a1, iv 0, iv p1] [.int p1, .int 0, .ref a2])
  obtain ⟨T2, h2, X2, e2, W2, Vw2, st2⟩ := own_ast X1 hx hZ e1 V_a2 (j := (0 : Int32)) ⟨by decide, by decide⟩ (x := p1) (i := 0) rfl (Nat.le_of_ble_eq_true rfl) (g := (mkF m 6 #[rv a1, iv 0, iv p1] [.int p1, .int 0, .ref a2])) rfl rfl (hb hby own_d_prog_14_method_3_6)
  have V2 : Arv Z h2 a2 kc1 .int (16 : Int32) [(.int p1), (.int ea1), (.int ea2), (.int ea3), (.int ea4), (.int ea5), (.int ea6), (.int ea7), (.int ea8), (.int ea9), (.int ea10), (.int ea11), (.int ea12), (.int ea13), (.int ea14), (.int ea15)] (.int (0 : Int32)) := Vw2
  have N2 := Fr.snoc X2 (Fr.nil n0) g_a2
  have Z3 := Nat.le_trans Z0 (Keep.of_wr W2).1
  have K4 : Keep h0 _ [a2] := (Keep.refl h0 [a2]).wr W2 (Or.inl (List.mem_of_getElem? (i := 0) rfl))
  refine own_st st2 ?_
  show own_E p e below _ T2 (mkF m 7 #[rv a1, iv 0, iv p1] [])
  refine own_retV X2 hx Bd.notSynchronized Bd.returns (hb hby own_d_prog_14_method_3_7) (by decide) (by decide) ?_
  show own_set0_Q Z a1 a2 kc1 p1 ea0 ea1 ea2 ea3 ea4 ea5 ea6 ea7 ea8 ea9 ea10 ea11 ea12 ea13 ea14 ea15 h0 n0 _ T2.heap _
  rw [e2]
  exact ⟨rfl, N2, K4, V2⟩
def own_set1_Q (Z : State) (a1 : Addr) (a2 : Addr) (kc1 : ClassId) (p1 : Int32) (ea0 : Int32) (ea1 : Int32) (ea2 : Int32) (ea3 : Int32) (ea4 : Int32) (ea5 : Int32) (ea6 : Int32) (ea7 : Int32) (ea8 : Int32) (ea9 : Int32) (ea10 : Int32) (ea11 : Int32) (ea12 : Int32) (ea13 : Int32) (ea14 : Int32) (ea15 : Int32) (h0 : Heap) (n0 : Nat) (v : Option Value) (h : Heap) (L : List Loc) : Prop := v = none ∧ Fr n0 L ∧ Keep h0 h [a2] ∧ Arv Z h a2 kc1 .int (16 : Int32) [(.int ea0), (.int p1), (.int ea2), (.int ea3), (.int ea4), (.int ea5), (.int ea6), (.int ea7), (.int ea8), (.int ea9), (.int ea10), (.int ea11), (.int ea12), (.int ea13), (.int ea14), (.int ea15)] (.int (0 : Int32))
theorem own_set1_ef (m : MethodId) (a1 : Addr) (a2 : Addr) (kc1 : ClassId) (p1 : Int32) (ea0 : Int32) (ea1 : Int32) (ea2 : Int32) (ea3 : Int32) (ea4 : Int32) (ea5 : Int32) (ea6 : Int32) (ea7 : Int32) (ea8 : Int32) (ea9 : Int32) (ea10 : Int32) (ea11 : Int32) (ea12 : Int32) (ea13 : Int32) (ea14 : Int32) (ea15 : Int32) : entryFrame m #[(.ref a1), (.int (1 : Int32)), (.int p1)] 3 = mkF m 0 #[.val (.ref a1), .val (.int (1 : Int32)), .val (.int p1)] [] := by first | (simp [entryFrame, mkF, argsToLocals, Value.category]; done) | rfl
set_option maxRecDepth 65536 in
set_option maxHeartbeats 40000000 in
theorem own_set1 (l : Launch) (Z : State) (a0 : Array Value) (hw : ∀ d ∈ tables_1, d.before a0 Z = true) (ws : List Jvm.Cond) (a1 : Addr) (a2 : Addr) (kc1 : ClassId) (p1 : Int32) (ea0 : Int32) (ea1 : Int32) (ea2 : Int32) (ea3 : Int32) (ea4 : Int32) (ea5 : Int32) (ea6 : Int32) (ea7 : Int32) (ea8 : Int32) (ea9 : Int32) (ea10 : Int32) (ea11 : Int32) (ea12 : Int32) (ea13 : Int32) (ea14 : Int32) (ea15 : Int32) (h0 : Heap) (n0 : Nat) (Z0 : n0 ≤ h0.size) (F_values_a1 : Fld Z h0 a1 "com/example/kalchas/kalchas/IntList" "values" "[I" (.ref a2)) (V_a2 : Arv Z h0 a2 kc1 .int (16 : Int32) [(.int ea0), (.int ea1), (.int ea2), (.int ea3), (.int ea4), (.int ea5), (.int ea6), (.int ea7), (.int ea8), (.int ea9), (.int ea10), (.int ea11), (.int ea12), (.int ea13), (.int ea14), (.int ea15)] (.int (0 : Int32))) (ne12 : a1 ≠ a2) (g_a2 : n0 ≤ a2) :
    MetFree l own_y4 (head1 (Jvm.Cond.code own_y4 prog_14_method_3_code 3 none :: ws) ({ frames := 0, cells := 0, slots := 0, locals := 0 } : Room)) (fun a U => a = #[(.ref a1), (.int (1 : Int32)), (.int p1)] ∧ Z.Warmed39 U.vm ∧ U.heap = h0) (fun _ _ _ _ _ => True) (fun _ U o U' => ∃ v L, o = .returned v ∧ own_set1_Q Z a1 a2 kc1 p1 ea0 ea1 ea2 ea3 ea4 ea5 ea6 ea7 ea8 ea9 ea10 ea11 ea12 ea13 ea14 ea15 h0 n0 v U'.heap L ∧ FrameEnd U o U' L ({ frames := 0, cells := 0, slots := 0, locals := 0 } : Room).cells ({ frames := 0, cells := 0, slots := 0, locals := 0 } : Room).slots) := by
  refine MetFree.of_bodySF (plainFor_of_name own_pn_IntList) hisR ?_
  intro p e s m args below meth c s₁ Bd hml0 hP hK
  obtain ⟨rfl, hZ, hh⟩ := hP
  have hx := Bd.exec
  have hby := Bd.bytes
  have hml : c.maxLocals = 3 := hml0
  have hown : s.vm.findClass "com/example/kalchas/kalchas/IntList" = some m.cls := findClass_of_methodNamed Bd.named
  have hnm := (name_of_methodNamed Bd.named Bd.method).1
  have X0 : Stand p l e ({ frames := 0, cells := 0, slots := 0, locals := 0 } : Room) s m #[(.ref a1), (.int (1 : Int32)), (.int p1)] below meth c s₁ [] 0 0 := Stand.of_body Bd
  have e0 : s₁.heap = h0 := by rw [← hh, Bd.state]; rfl
  show own_E p e below (own_K (own_set1_Q Z a1 a2 kc1 p1 ea0 ea1 ea2 ea3 ea4 ea5 ea6 ea7 ea8 ea9 ea10 ea11 ea12 ea13 ea14 ea15 h0 n0) s ({ frames := 0, cells := 0, slots := 0, locals := 0 } : Room).cells ({ frames := 0, cells := 0, slots := 0, locals := 0 } : Room).slots) s₁ (entryFrame m #[(.ref a1), (.int (1 : Int32)), (.int p1)] 3)
  refine own_pre (own_set1_ef m a1 a2 kc1 p1 ea0 ea1 ea2 ea3 ea4 ea5 ea6 ea7 ea8 ea9 ea10 ea11 ea12 ea13 ea14 ea15) ?_
  show own_E p e below _ s₁ (mkF m 0 #[rv a1, iv 1, iv p1] [])
  refine own_st (fun t k => XS.aloadN X0.here hx rfl (hb hby own_d_prog_14_method_3_0) rfl rfl k) ?_
  show own_E p e below _ s₁ (mkF m 1 #[rv a1, iv 1, iv p1] [.ref a1])
  obtain ⟨T1, X1, e1, st1⟩ := getF X0 hx hZ hown (host := "") (Or.inl (own_w hw 11 rfl)) Via.refl e0 F_values_a1 (g := (mkF m 1 #[rv a1, iv 1, iv p1] [.ref a1])) rfl rfl (hb hby own_d_prog_14_method_3_1)
  refine own_st st1 ?_
  show own_E p e below _ T1 (mkF m 4 #[rv a1, iv 1, iv p1] [.ref a2])
  refine own_st (fun t k => XS.iloadN X1.here hx rfl (hb hby own_d_prog_14_method_3_4) rfl k) ?_
  show own_E p e below _ T1 (mkF m 5 #[rv a1, iv 1, iv p1] [.int 1, .ref a2])
  refine own_st (fun t k => XS.iloadN X1.here hx rfl (hb hby own_d_prog_14_method_3_5) rfl k) ?_
  show own_E p e below _ T1 (mkF m 6 #[rv a1, iv 1, iv p1] [.int p1, .int 1, .ref a2])
  obtain ⟨T2, h2, X2, e2, W2, Vw2, st2⟩ := own_ast X1 hx hZ e1 V_a2 (j := (1 : Int32)) ⟨by decide, by decide⟩ (x := p1) (i := 1) rfl (Nat.le_of_ble_eq_true rfl) (g := (mkF m 6 #[rv a1, iv 1, iv p1] [.int p1, .int 1, .ref a2])) rfl rfl (hb hby own_d_prog_14_method_3_6)
  have V2 : Arv Z h2 a2 kc1 .int (16 : Int32) [(.int ea0), (.int p1), (.int ea2), (.int ea3), (.int ea4), (.int ea5), (.int ea6), (.int ea7), (.int ea8), (.int ea9), (.int ea10), (.int ea11), (.int ea12), (.int ea13), (.int ea14), (.int ea15)] (.int (0 : Int32)) := Vw2
  have N2 := Fr.snoc X2 (Fr.nil n0) g_a2
  have Z3 := Nat.le_trans Z0 (Keep.of_wr W2).1
  have K4 : Keep h0 _ [a2] := (Keep.refl h0 [a2]).wr W2 (Or.inl (List.mem_of_getElem? (i := 0) rfl))
  refine own_st st2 ?_
  show own_E p e below _ T2 (mkF m 7 #[rv a1, iv 1, iv p1] [])
  refine own_retV X2 hx Bd.notSynchronized Bd.returns (hb hby own_d_prog_14_method_3_7) (by decide) (by decide) ?_
  show own_set1_Q Z a1 a2 kc1 p1 ea0 ea1 ea2 ea3 ea4 ea5 ea6 ea7 ea8 ea9 ea10 ea11 ea12 ea13 ea14 ea15 h0 n0 _ T2.heap _
  rw [e2]
  exact ⟨rfl, N2, K4, V2⟩
def own_set2_Q (Z : State) (a1 : Addr) (a2 : Addr) (kc1 : ClassId) (p1 : Int32) (ea0 : Int32) (ea1 : Int32) (ea2 : Int32) (ea3 : Int32) (ea4 : Int32) (ea5 : Int32) (ea6 : Int32) (ea7 : Int32) (ea8 : Int32) (ea9 : Int32) (ea10 : Int32) (ea11 : Int32) (ea12 : Int32) (ea13 : Int32) (ea14 : Int32) (ea15 : Int32) (h0 : Heap) (n0 : Nat) (v : Option Value) (h : Heap) (L : List Loc) : Prop := v = none ∧ Fr n0 L ∧ Keep h0 h [a2] ∧ Arv Z h a2 kc1 .int (16 : Int32) [(.int ea0), (.int ea1), (.int p1), (.int ea3), (.int ea4), (.int ea5), (.int ea6), (.int ea7), (.int ea8), (.int ea9), (.int ea10), (.int ea11), (.int ea12), (.int ea13), (.int ea14), (.int ea15)] (.int (0 : Int32))
theorem own_set2_ef (m : MethodId) (a1 : Addr) (a2 : Addr) (kc1 : ClassId) (p1 : Int32) (ea0 : Int32) (ea1 : Int32) (ea2 : Int32) (ea3 : Int32) (ea4 : Int32) (ea5 : Int32) (ea6 : Int32) (ea7 : Int32) (ea8 : Int32) (ea9 : Int32) (ea10 : Int32) (ea11 : Int32) (ea12 : Int32) (ea13 : Int32) (ea14 : Int32) (ea15 : Int32) : entryFrame m #[(.ref a1), (.int (2 : Int32)), (.int p1)] 3 = mkF m 0 #[.val (.ref a1), .val (.int (2 : Int32)), .val (.int p1)] [] := by first | (simp [entryFrame, mkF, argsToLocals, Value.category]; done) | rfl
set_option maxRecDepth 65536 in
set_option maxHeartbeats 40000000 in
theorem own_set2 (l : Launch) (Z : State) (a0 : Array Value) (hw : ∀ d ∈ tables_1, d.before a0 Z = true) (ws : List Jvm.Cond) (a1 : Addr) (a2 : Addr) (kc1 : ClassId) (p1 : Int32) (ea0 : Int32) (ea1 : Int32) (ea2 : Int32) (ea3 : Int32) (ea4 : Int32) (ea5 : Int32) (ea6 : Int32) (ea7 : Int32) (ea8 : Int32) (ea9 : Int32) (ea10 : Int32) (ea11 : Int32) (ea12 : Int32) (ea13 : Int32) (ea14 : Int32) (ea15 : Int32) (h0 : Heap) (n0 : Nat) (Z0 : n0 ≤ h0.size) (F_values_a1 : Fld Z h0 a1 "com/example/kalchas/kalchas/IntList" "values" "[I" (.ref a2)) (V_a2 : Arv Z h0 a2 kc1 .int (16 : Int32) [(.int ea0), (.int ea1), (.int ea2), (.int ea3), (.int ea4), (.int ea5), (.int ea6), (.int ea7), (.int ea8), (.int ea9), (.int ea10), (.int ea11), (.int ea12), (.int ea13), (.int ea14), (.int ea15)] (.int (0 : Int32))) (ne12 : a1 ≠ a2) (g_a2 : n0 ≤ a2) :
    MetFree l own_y4 (head1 (Jvm.Cond.code own_y4 prog_14_method_3_code 3 none :: ws) ({ frames := 0, cells := 0, slots := 0, locals := 0 } : Room)) (fun a U => a = #[(.ref a1), (.int (2 : Int32)), (.int p1)] ∧ Z.Warmed39 U.vm ∧ U.heap = h0) (fun _ _ _ _ _ => True) (fun _ U o U' => ∃ v L, o = .returned v ∧ own_set2_Q Z a1 a2 kc1 p1 ea0 ea1 ea2 ea3 ea4 ea5 ea6 ea7 ea8 ea9 ea10 ea11 ea12 ea13 ea14 ea15 h0 n0 v U'.heap L ∧ FrameEnd U o U' L ({ frames := 0, cells := 0, slots := 0, locals := 0 } : Room).cells ({ frames := 0, cells := 0, slots := 0, locals := 0 } : Room).slots) := by
  refine MetFree.of_bodySF (plainFor_of_name own_pn_IntList) hisR ?_
  intro p e s m args below meth c s₁ Bd hml0 hP hK
  obtain ⟨rfl, hZ, hh⟩ := hP
  have hx := Bd.exec
  have hby := Bd.bytes
  have hml : c.maxLocals = 3 := hml0
  have hown : s.vm.findClass "com/example/kalchas/kalchas/IntList" = some m.cls := findClass_of_methodNamed Bd.named
  have hnm := (name_of_methodNamed Bd.named Bd.method).1
  have X0 : Stand p l e ({ frames := 0, cells := 0, slots := 0, locals := 0 } : Room) s m #[(.ref a1), (.int (2 : Int32)), (.int p1)] below meth c s₁ [] 0 0 := Stand.of_body Bd
  have e0 : s₁.heap = h0 := by rw [← hh, Bd.state]; rfl
  show own_E p e below (own_K (own_set2_Q Z a1 a2 kc1 p1 ea0 ea1 ea2 ea3 ea4 ea5 ea6 ea7 ea8 ea9 ea10 ea11 ea12 ea13 ea14 ea15 h0 n0) s ({ frames := 0, cells := 0, slots := 0, locals := 0 } : Room).cells ({ frames := 0, cells := 0, slots := 0, locals := 0 } : Room).slots) s₁ (entryFrame m #[(.ref a1), (.int (2 : Int32)), (.int p1)] 3)
  refine own_pre (own_set2_ef m a1 a2 kc1 p1 ea0 ea1 ea2 ea3 ea4 ea5 ea6 ea7 ea8 ea9 ea10 ea11 ea12 ea13 ea14 ea15) ?_
  show own_E p e below _ s₁ (mkF m 0 #[rv a1, iv 2, iv p1] [])
  refine own_st (fun t k => XS.aloadN X0.here hx rfl (hb hby own_d_prog_14_method_3_0) rfl rfl k) ?_
  show own_E p e below _ s₁ (mkF m 1 #[rv a1, iv 2, iv p1] [.ref a1])
  obtain ⟨T1, X1, e1, st1⟩ := getF X0 hx hZ hown (host := "") (Or.inl (own_w hw 11 rfl)) Via.refl e0 F_values_a1 (g := (mkF m 1 #[rv a1, iv 2, iv p1] [.ref a1])) rfl rfl (hb hby own_d_prog_14_method_3_1)
  refine own_st st1 ?_
  show own_E p e below _ T1 (mkF m 4 #[rv a1, iv 2, iv p1] [.ref a2])
  refine own_st (fun t k => XS.iloadN X1.here hx rfl (hb hby own_d_prog_14_method_3_4) rfl k) ?_
  show own_E p e below _ T1 (mkF m 5 #[rv a1, iv 2, iv p1] [.int 2, .ref a2])
  refine own_st (fun t k => XS.iloadN X1.here hx rfl (hb hby own_d_prog_14_method_3_5) rfl k) ?_
  show own_E p e below _ T1 (mkF m 6 #[rv a1, iv 2, iv p1] [.int p1, .int 2, .ref a2])
  obtain ⟨T2, h2, X2, e2, W2, Vw2, st2⟩ := own_ast X1 hx hZ e1 V_a2 (j := (2 : Int32)) ⟨by decide, by decide⟩ (x := p1) (i := 2) rfl (Nat.le_of_ble_eq_true rfl) (g := (mkF m 6 #[rv a1, iv 2, iv p1] [.int p1, .int 2, .ref a2])) rfl rfl (hb hby own_d_prog_14_method_3_6)
  have V2 : Arv Z h2 a2 kc1 .int (16 : Int32) [(.int ea0), (.int ea1), (.int p1), (.int ea3), (.int ea4), (.int ea5), (.int ea6), (.int ea7), (.int ea8), (.int ea9), (.int ea10), (.int ea11), (.int ea12), (.int ea13), (.int ea14), (.int ea15)] (.int (0 : Int32)) := Vw2
  have N2 := Fr.snoc X2 (Fr.nil n0) g_a2
  have Z3 := Nat.le_trans Z0 (Keep.of_wr W2).1
  have K4 : Keep h0 _ [a2] := (Keep.refl h0 [a2]).wr W2 (Or.inl (List.mem_of_getElem? (i := 0) rfl))
  refine own_st st2 ?_
  show own_E p e below _ T2 (mkF m 7 #[rv a1, iv 2, iv p1] [])
  refine own_retV X2 hx Bd.notSynchronized Bd.returns (hb hby own_d_prog_14_method_3_7) (by decide) (by decide) ?_
  show own_set2_Q Z a1 a2 kc1 p1 ea0 ea1 ea2 ea3 ea4 ea5 ea6 ea7 ea8 ea9 ea10 ea11 ea12 ea13 ea14 ea15 h0 n0 _ T2.heap _
  rw [e2]
  exact ⟨rfl, N2, K4, V2⟩
def own_set3_Q (Z : State) (a1 : Addr) (a2 : Addr) (kc1 : ClassId) (p1 : Int32) (ea0 : Int32) (ea1 : Int32) (ea2 : Int32) (ea3 : Int32) (ea4 : Int32) (ea5 : Int32) (ea6 : Int32) (ea7 : Int32) (ea8 : Int32) (ea9 : Int32) (ea10 : Int32) (ea11 : Int32) (ea12 : Int32) (ea13 : Int32) (ea14 : Int32) (ea15 : Int32) (h0 : Heap) (n0 : Nat) (v : Option Value) (h : Heap) (L : List Loc) : Prop := v = none ∧ Fr n0 L ∧ Keep h0 h [a2] ∧ Arv Z h a2 kc1 .int (16 : Int32) [(.int ea0), (.int ea1), (.int ea2), (.int p1), (.int ea4), (.int ea5), (.int ea6), (.int ea7), (.int ea8), (.int ea9), (.int ea10), (.int ea11), (.int ea12), (.int ea13), (.int ea14), (.int ea15)] (.int (0 : Int32))
theorem own_set3_ef (m : MethodId) (a1 : Addr) (a2 : Addr) (kc1 : ClassId) (p1 : Int32) (ea0 : Int32) (ea1 : Int32) (ea2 : Int32) (ea3 : Int32) (ea4 : Int32) (ea5 : Int32) (ea6 : Int32) (ea7 : Int32) (ea8 : Int32) (ea9 : Int32) (ea10 : Int32) (ea11 : Int32) (ea12 : Int32) (ea13 : Int32) (ea14 : Int32) (ea15 : Int32) : entryFrame m #[(.ref a1), (.int (3 : Int32)), (.int p1)] 3 = mkF m 0 #[.val (.ref a1), .val (.int (3 : Int32)), .val (.int p1)] [] := by first | (simp [entryFrame, mkF, argsToLocals, Value.category]; done) | rfl
set_option maxRecDepth 65536 in
set_option maxHeartbeats 40000000 in
theorem own_set3 (l : Launch) (Z : State) (a0 : Array Value) (hw : ∀ d ∈ tables_1, d.before a0 Z = true) (ws : List Jvm.Cond) (a1 : Addr) (a2 : Addr) (kc1 : ClassId) (p1 : Int32) (ea0 : Int32) (ea1 : Int32) (ea2 : Int32) (ea3 : Int32) (ea4 : Int32) (ea5 : Int32) (ea6 : Int32) (ea7 : Int32) (ea8 : Int32) (ea9 : Int32) (ea10 : Int32) (ea11 : Int32) (ea12 : Int32) (ea13 : Int32) (ea14 : Int32) (ea15 : Int32) (h0 : Heap) (n0 : Nat) (Z0 : n0 ≤ h0.size) (F_values_a1 : Fld Z h0 a1 "com/example/kalchas/kalchas/IntList" "values" "[I" (.ref a2)) (V_a2 : Arv Z h0 a2 kc1 .int (16 : Int32) [(.int ea0), (.int ea1), (.int ea2), (.int ea3), (.int ea4), (.int ea5), (.int ea6), (.int ea7), (.int ea8), (.int ea9), (.int ea10), (.int ea11), (.int ea12), (.int ea13), (.int ea14), (.int ea15)] (.int (0 : Int32))) (ne12 : a1 ≠ a2) (g_a2 : n0 ≤ a2) :
    MetFree l own_y4 (head1 (Jvm.Cond.code own_y4 prog_14_method_3_code 3 none :: ws) ({ frames := 0, cells := 0, slots := 0, locals := 0 } : Room)) (fun a U => a = #[(.ref a1), (.int (3 : Int32)), (.int p1)] ∧ Z.Warmed39 U.vm ∧ U.heap = h0) (fun _ _ _ _ _ => True) (fun _ U o U' => ∃ v L, o = .returned v ∧ own_set3_Q Z a1 a2 kc1 p1 ea0 ea1 ea2 ea3 ea4 ea5 ea6 ea7 ea8 ea9 ea10 ea11 ea12 ea13 ea14 ea15 h0 n0 v U'.heap L ∧ FrameEnd U o U' L ({ frames := 0, cells := 0, slots := 0, locals := 0 } : Room).cells ({ frames := 0, cells := 0, slots := 0, locals := 0 } : Room).slots) := by
  refine MetFree.of_bodySF (plainFor_of_name own_pn_IntList) hisR ?_
  intro p e s m args below meth c s₁ Bd hml0 hP hK
  obtain ⟨rfl, hZ, hh⟩ := hP
  have hx := Bd.exec
  have hby := Bd.bytes
  have hml : c.maxLocals = 3 := hml0
  have hown : s.vm.findClass "com/example/kalchas/kalchas/IntList" = some m.cls := findClass_of_methodNamed Bd.named
  have hnm := (name_of_methodNamed Bd.named Bd.method).1
  have X0 : Stand p l e ({ frames := 0, cells := 0, slots := 0, locals := 0 } : Room) s m #[(.ref a1), (.int (3 : Int32)), (.int p1)] below meth c s₁ [] 0 0 := Stand.of_body Bd
  have e0 : s₁.heap = h0 := by rw [← hh, Bd.state]; rfl
  show own_E p e below (own_K (own_set3_Q Z a1 a2 kc1 p1 ea0 ea1 ea2 ea3 ea4 ea5 ea6 ea7 ea8 ea9 ea10 ea11 ea12 ea13 ea14 ea15 h0 n0) s ({ frames := 0, cells := 0, slots := 0, locals := 0 } : Room).cells ({ frames := 0, cells := 0, slots := 0, locals := 0 } : Room).slots) s₁ (entryFrame m #[(.ref a1), (.int (3 : Int32)), (.int p1)] 3)
  refine own_pre (own_set3_ef m a1 a2 kc1 p1 ea0 ea1 ea2 ea3 ea4 ea5 ea6 ea7 ea8 ea9 ea10 ea11 ea12 ea13 ea14 ea15) ?_
  show own_E p e below _ s₁ (mkF m 0 #[rv a1, iv 3, iv p1] [])
  refine own_st (fun t k => XS.aloadN X0.here hx rfl (hb hby own_d_prog_14_method_3_0) rfl rfl k) ?_
  show own_E p e below _ s₁ (mkF m 1 #[rv a1, iv 3, iv p1] [.ref a1])
  obtain ⟨T1, X1, e1, st1⟩ := getF X0 hx hZ hown (host := "") (Or.inl (own_w hw 11 rfl)) Via.refl e0 F_values_a1 (g := (mkF m 1 #[rv a1, iv 3, iv p1] [.ref a1])) rfl rfl (hb hby own_d_prog_14_method_3_1)
  refine own_st st1 ?_
  show own_E p e below _ T1 (mkF m 4 #[rv a1, iv 3, iv p1] [.ref a2])
  refine own_st (fun t k => XS.iloadN X1.here hx rfl (hb hby own_d_prog_14_method_3_4) rfl k) ?_
  show own_E p e below _ T1 (mkF m 5 #[rv a1, iv 3, iv p1] [.int 3, .ref a2])
  refine own_st (fun t k => XS.iloadN X1.here hx rfl (hb hby own_d_prog_14_method_3_5) rfl k) ?_
  show own_E p e below _ T1 (mkF m 6 #[rv a1, iv 3, iv p1] [.int p1, .int 3, .ref a2])
  obtain ⟨T2, h2, X2, e2, W2, Vw2, st2⟩ := own_ast X1 hx hZ e1 V_a2 (j := (3 : Int32)) ⟨by decide, by decide⟩ (x := p1) (i := 3) rfl (Nat.le_of_ble_eq_true rfl) (g := (mkF m 6 #[rv a1, iv 3, iv p1] [.int p1, .int 3, .ref a2])) rfl rfl (hb hby own_d_prog_14_method_3_6)
  have V2 : Arv Z h2 a2 kc1 .int (16 : Int32) [(.int ea0), (.int ea1), (.int ea2), (.int p1), (.int ea4), (.int ea5), (.int ea6), (.int ea7), (.int ea8), (.int ea9), (.int ea10), (.int ea11), (.int ea12), (.int ea13), (.int ea14), (.int ea15)] (.int (0 : Int32)) := Vw2
  have N2 := Fr.snoc X2 (Fr.nil n0) g_a2
  have Z3 := Nat.le_trans Z0 (Keep.of_wr W2).1
  have K4 : Keep h0 _ [a2] := (Keep.refl h0 [a2]).wr W2 (Or.inl (List.mem_of_getElem? (i := 0) rfl))
  refine own_st st2 ?_
  show own_E p e below _ T2 (mkF m 7 #[rv a1, iv 3, iv p1] [])
  refine own_retV X2 hx Bd.notSynchronized Bd.returns (hb hby own_d_prog_14_method_3_7) (by decide) (by decide) ?_
  show own_set3_Q Z a1 a2 kc1 p1 ea0 ea1 ea2 ea3 ea4 ea5 ea6 ea7 ea8 ea9 ea10 ea11 ea12 ea13 ea14 ea15 h0 n0 _ T2.heap _
  rw [e2]
  exact ⟨rfl, N2, K4, V2⟩
def own_set4_Q (Z : State) (a1 : Addr) (a2 : Addr) (kc1 : ClassId) (p1 : Int32) (ea0 : Int32) (ea1 : Int32) (ea2 : Int32) (ea3 : Int32) (ea4 : Int32) (ea5 : Int32) (ea6 : Int32) (ea7 : Int32) (ea8 : Int32) (ea9 : Int32) (ea10 : Int32) (ea11 : Int32) (ea12 : Int32) (ea13 : Int32) (ea14 : Int32) (ea15 : Int32) (h0 : Heap) (n0 : Nat) (v : Option Value) (h : Heap) (L : List Loc) : Prop := v = none ∧ Fr n0 L ∧ Keep h0 h [a2] ∧ Arv Z h a2 kc1 .int (16 : Int32) [(.int ea0), (.int ea1), (.int ea2), (.int ea3), (.int p1), (.int ea5), (.int ea6), (.int ea7), (.int ea8), (.int ea9), (.int ea10), (.int ea11), (.int ea12), (.int ea13), (.int ea14), (.int ea15)] (.int (0 : Int32))
theorem own_set4_ef (m : MethodId) (a1 : Addr) (a2 : Addr) (kc1 : ClassId) (p1 : Int32) (ea0 : Int32) (ea1 : Int32) (ea2 : Int32) (ea3 : Int32) (ea4 : Int32) (ea5 : Int32) (ea6 : Int32) (ea7 : Int32) (ea8 : Int32) (ea9 : Int32) (ea10 : Int32) (ea11 : Int32) (ea12 : Int32) (ea13 : Int32) (ea14 : Int32) (ea15 : Int32) : entryFrame m #[(.ref a1), (.int (4 : Int32)), (.int p1)] 3 = mkF m 0 #[.val (.ref a1), .val (.int (4 : Int32)), .val (.int p1)] [] := by first | (simp [entryFrame, mkF, argsToLocals, Value.category]; done) | rfl
set_option maxRecDepth 65536 in
set_option maxHeartbeats 40000000 in
theorem own_set4 (l : Launch) (Z : State) (a0 : Array Value) (hw : ∀ d ∈ tables_1, d.before a0 Z = true) (ws : List Jvm.Cond) (a1 : Addr) (a2 : Addr) (kc1 : ClassId) (p1 : Int32) (ea0 : Int32) (ea1 : Int32) (ea2 : Int32) (ea3 : Int32) (ea4 : Int32) (ea5 : Int32) (ea6 : Int32) (ea7 : Int32) (ea8 : Int32) (ea9 : Int32) (ea10 : Int32) (ea11 : Int32) (ea12 : Int32) (ea13 : Int32) (ea14 : Int32) (ea15 : Int32) (h0 : Heap) (n0 : Nat) (Z0 : n0 ≤ h0.size) (F_values_a1 : Fld Z h0 a1 "com/example/kalchas/kalchas/IntList" "values" "[I" (.ref a2)) (V_a2 : Arv Z h0 a2 kc1 .int (16 : Int32) [(.int ea0), (.int ea1), (.int ea2), (.int ea3), (.int ea4), (.int ea5), (.int ea6), (.int ea7), (.int ea8), (.int ea9), (.int ea10), (.int ea11), (.int ea12), (.int ea13), (.int ea14), (.int ea15)] (.int (0 : Int32))) (ne12 : a1 ≠ a2) (g_a2 : n0 ≤ a2) :
    MetFree l own_y4 (head1 (Jvm.Cond.code own_y4 prog_14_method_3_code 3 none :: ws) ({ frames := 0, cells := 0, slots := 0, locals := 0 } : Room)) (fun a U => a = #[(.ref a1), (.int (4 : Int32)), (.int p1)] ∧ Z.Warmed39 U.vm ∧ U.heap = h0) (fun _ _ _ _ _ => True) (fun _ U o U' => ∃ v L, o = .returned v ∧ own_set4_Q Z a1 a2 kc1 p1 ea0 ea1 ea2 ea3 ea4 ea5 ea6 ea7 ea8 ea9 ea10 ea11 ea12 ea13 ea14 ea15 h0 n0 v U'.heap L ∧ FrameEnd U o U' L ({ frames := 0, cells := 0, slots := 0, locals := 0 } : Room).cells ({ frames := 0, cells := 0, slots := 0, locals := 0 } : Room).slots) := by
  refine MetFree.of_bodySF (plainFor_of_name own_pn_IntList) hisR ?_
  intro p e s m args below meth c s₁ Bd hml0 hP hK
  obtain ⟨rfl, hZ, hh⟩ := hP
  have hx := Bd.exec
  have hby := Bd.bytes
  have hml : c.maxLocals = 3 := hml0
  have hown : s.vm.findClass "com/example/kalchas/kalchas/IntList" = some m.cls := findClass_of_methodNamed Bd.named
  have hnm := (name_of_methodNamed Bd.named Bd.method).1
  have X0 : Stand p l e ({ frames := 0, cells := 0, slots := 0, locals := 0 } : Room) s m #[(.ref a1), (.int (4 : Int32)), (.int p1)] below meth c s₁ [] 0 0 := Stand.of_body Bd
  have e0 : s₁.heap = h0 := by rw [← hh, Bd.state]; rfl
  show own_E p e below (own_K (own_set4_Q Z a1 a2 kc1 p1 ea0 ea1 ea2 ea3 ea4 ea5 ea6 ea7 ea8 ea9 ea10 ea11 ea12 ea13 ea14 ea15 h0 n0) s ({ frames := 0, cells := 0, slots := 0, locals := 0 } : Room).cells ({ frames := 0, cells := 0, slots := 0, locals := 0 } : Room).slots) s₁ (entryFrame m #[(.ref a1), (.int (4 : Int32)), (.int p1)] 3)
  refine own_pre (own_set4_ef m a1 a2 kc1 p1 ea0 ea1 ea2 ea3 ea4 ea5 ea6 ea7 ea8 ea9 ea10 ea11 ea12 ea13 ea14 ea15) ?_
  show own_E p e below _ s₁ (mkF m 0 #[rv a1, iv 4, iv p1] [])
  refine own_st (fun t k => XS.aloadN X0.here hx rfl (hb hby own_d_prog_14_method_3_0) rfl rfl k) ?_
  show own_E p e below _ s₁ (mkF m 1 #[rv a1, iv 4, iv p1] [.ref a1])
  obtain ⟨T1, X1, e1, st1⟩ := getF X0 hx hZ hown (host := "") (Or.inl (own_w hw 11 rfl)) Via.refl e0 F_values_a1 (g := (mkF m 1 #[rv a1, iv 4, iv p1] [.ref a1])) rfl rfl (hb hby own_d_prog_14_method_3_1)
  refine own_st st1 ?_
  show own_E p e below _ T1 (mkF m 4 #[rv a1, iv 4, iv p1] [.ref a2])
  refine own_st (fun t k => XS.iloadN X1.here hx rfl (hb hby own_d_prog_14_method_3_4) rfl k) ?_
  show own_E p e below _ T1 (mkF m 5 #[rv a1, iv 4, iv p1] [.int 4, .ref a2])
  refine own_st (fun t k => XS.iloadN X1.here hx rfl (hb hby own_d_prog_14_method_3_5) rfl k) ?_
  show own_E p e below _ T1 (mkF m 6 #[rv a1, iv 4, iv p1] [.int p1, .int 4, .ref a2])
  obtain ⟨T2, h2, X2, e2, W2, Vw2, st2⟩ := own_ast X1 hx hZ e1 V_a2 (j := (4 : Int32)) ⟨by decide, by decide⟩ (x := p1) (i := 4) rfl (Nat.le_of_ble_eq_true rfl) (g := (mkF m 6 #[rv a1, iv 4, iv p1] [.int p1, .int 4, .ref a2])) rfl rfl (hb hby own_d_prog_14_method_3_6)
  have V2 : Arv Z h2 a2 kc1 .int (16 : Int32) [(.int ea0), (.int ea1), (.int ea2), (.int ea3), (.int p1), (.int ea5), (.int ea6), (.int ea7), (.int ea8), (.int ea9), (.int ea10), (.int ea11), (.int ea12), (.int ea13), (.int ea14), (.int ea15)] (.int (0 : Int32)) := Vw2
  have N2 := Fr.snoc X2 (Fr.nil n0) g_a2
  have Z3 := Nat.le_trans Z0 (Keep.of_wr W2).1
  have K4 : Keep h0 _ [a2] := (Keep.refl h0 [a2]).wr W2 (Or.inl (List.mem_of_getElem? (i := 0) rfl))
  refine own_st st2 ?_
  show own_E p e below _ T2 (mkF m 7 #[rv a1, iv 4, iv p1] [])
  refine own_retV X2 hx Bd.notSynchronized Bd.returns (hb hby own_d_prog_14_method_3_7) (by decide) (by decide) ?_
  show own_set4_Q Z a1 a2 kc1 p1 ea0 ea1 ea2 ea3 ea4 ea5 ea6 ea7 ea8 ea9 ea10 ea11 ea12 ea13 ea14 ea15 h0 n0 _ T2.heap _
  rw [e2]
  exact ⟨rfl, N2, K4, V2⟩
def own_set5_Q (Z : State) (a1 : Addr) (a2 : Addr) (kc1 : ClassId) (p1 : Int32) (ea0 : Int32) (ea1 : Int32) (ea2 : Int32) (ea3 : Int32) (ea4 : Int32) (ea5 : Int32) (ea6 : Int32) (ea7 : Int32) (ea8 : Int32) (ea9 : Int32) (ea10 : Int32) (ea11 : Int32) (ea12 : Int32) (ea13 : Int32) (ea14 : Int32) (ea15 : Int32) (h0 : Heap) (n0 : Nat) (v : Option Value) (h : Heap) (L : List Loc) : Prop := v = none ∧ Fr n0 L ∧ Keep h0 h [a2] ∧ Arv Z h a2 kc1 .int (16 : Int32) [(.int ea0), (.int ea1), (.int ea2), (.int ea3), (.int ea4), (.int p1), (.int ea6), (.int ea7), (.int ea8), (.int ea9), (.int ea10), (.int ea11), (.int ea12), (.int ea13), (.int ea14), (.int ea15)] (.int (0 : Int32))
theorem own_set5_ef (m : MethodId) (a1 : Addr) (a2 : Addr) (kc1 : ClassId) (p1 : Int32) (ea0 : Int32) (ea1 : Int32) (ea2 : Int32) (ea3 : Int32) (ea4 : Int32) (ea5 : Int32) (ea6 : Int32) (ea7 : Int32) (ea8 : Int32) (ea9 : Int32) (ea10 : Int32) (ea11 : Int32) (ea12 : Int32) (ea13 : Int32) (ea14 : Int32) (ea15 : Int32) : entryFrame m #[(.ref a1), (.int (5 : Int32)), (.int p1)] 3 = mkF m 0 #[.val (.ref a1), .val (.int (5 : Int32)), .val (.int p1)] [] := by first | (simp [entryFrame, mkF, argsToLocals, Value.category]; done) | rfl
set_option maxRecDepth 65536 in
set_option maxHeartbeats 40000000 in
theorem own_set5 (l : Launch) (Z : State) (a0 : Array Value) (hw : ∀ d ∈ tables_1, d.before a0 Z = true) (ws : List Jvm.Cond) (a1 : Addr) (a2 : Addr) (kc1 : ClassId) (p1 : Int32) (ea0 : Int32) (ea1 : Int32) (ea2 : Int32) (ea3 : Int32) (ea4 : Int32) (ea5 : Int32) (ea6 : Int32) (ea7 : Int32) (ea8 : Int32) (ea9 : Int32) (ea10 : Int32) (ea11 : Int32) (ea12 : Int32) (ea13 : Int32) (ea14 : Int32) (ea15 : Int32) (h0 : Heap) (n0 : Nat) (Z0 : n0 ≤ h0.size) (F_values_a1 : Fld Z h0 a1 "com/example/kalchas/kalchas/IntList" "values" "[I" (.ref a2)) (V_a2 : Arv Z h0 a2 kc1 .int (16 : Int32) [(.int ea0), (.int ea1), (.int ea2), (.int ea3), (.int ea4), (.int ea5), (.int ea6), (.int ea7), (.int ea8), (.int ea9), (.int ea10), (.int ea11), (.int ea12), (.int ea13), (.int ea14), (.int ea15)] (.int (0 : Int32))) (ne12 : a1 ≠ a2) (g_a2 : n0 ≤ a2) :
    MetFree l own_y4 (head1 (Jvm.Cond.code own_y4 prog_14_method_3_code 3 none :: ws) ({ frames := 0, cells := 0, slots := 0, locals := 0 } : Room)) (fun a U => a = #[(.ref a1), (.int (5 : Int32)), (.int p1)] ∧ Z.Warmed39 U.vm ∧ U.heap = h0) (fun _ _ _ _ _ => True) (fun _ U o U' => ∃ v L, o = .returned v ∧ own_set5_Q Z a1 a2 kc1 p1 ea0 ea1 ea2 ea3 ea4 ea5 ea6 ea7 ea8 ea9 ea10 ea11 ea12 ea13 ea14 ea15 h0 n0 v U'.heap L ∧ FrameEnd U o U' L ({ frames := 0, cells := 0, slots := 0, locals := 0 } : Room).cells ({ frames := 0, cells := 0, slots := 0, locals := 0 } : Room).slots) := by
  refine MetFree.of_bodySF (plainFor_of_name own_pn_IntList) hisR ?_
  intro p e s m args below meth c s₁ Bd hml0 hP hK
  obtain ⟨rfl, hZ, hh⟩ := hP
  have hx := Bd.exec
  have hby := Bd.bytes
  have hml : c.maxLocals = 3 := hml0
  have hown : s.vm.findClass "com/example/kalchas/kalchas/IntList" = some m.cls := findClass_of_methodNamed Bd.named
  have hnm := (name_of_methodNamed Bd.named Bd.method).1
  have X0 : Stand p l e ({ frames := 0, cells := 0, slots := 0, locals := 0 } : Room) s m #[(.ref a1), (.int (5 : Int32)), (.int p1)] below meth c s₁ [] 0 0 := Stand.of_body Bd
  have e0 : s₁.heap = h0 := by rw [← hh, Bd.state]; rfl
  show own_E p e below (own_K (own_set5_Q Z a1 a2 kc1 p1 ea0 ea1 ea2 ea3 ea4 ea5 ea6 ea7 ea8 ea9 ea10 ea11 ea12 ea13 ea14 ea15 h0 n0) s ({ frames := 0, cells := 0, slots := 0, locals := 0 } : Room).cells ({ frames := 0, cells := 0, slots := 0, locals := 0 } : Room).slots) s₁ (entryFrame m #[(.ref a1), (.int (5 : Int32)), (.int p1)] 3)
  refine own_pre (own_set5_ef m a1 a2 kc1 p1 ea0 ea1 ea2 ea3 ea4 ea5 ea6 ea7 ea8 ea9 ea10 ea11 ea12 ea13 ea14 ea15) ?_
  show own_E p e below _ s₁ (mkF m 0 #[rv a1, iv 5, iv p1] [])
  refine own_st (fun t k => XS.aloadN X0.here hx rfl (hb hby own_d_prog_14_method_3_0) rfl rfl k) ?_
  show own_E p e below _ s₁ (mkF m 1 #[rv a1, iv 5, iv p1] [.ref a1])
  obtain ⟨T1, X1, e1, st1⟩ := getF X0 hx hZ hown (host := "") (Or.inl (own_w hw 11 rfl)) Via.refl e0 F_values_a1 (g := (mkF m 1 #[rv a1, iv 5, iv p1] [.ref a1])) rfl rfl (hb hby own_d_prog_14_method_3_1)
  refine own_st st1 ?_
  show own_E p e below _ T1 (mkF m 4 #[rv a1, iv 5, iv p1] [.ref a2])
  refine own_st (fun t k => XS.iloadN X1.here hx rfl (hb hby own_d_prog_14_method_3_4) rfl k) ?_
  show own_E p e below _ T1 (mkF m 5 #[rv a1, iv 5, iv p1] [.int 5, .ref a2])
  refine own_st (fun t k => XS.iloadN X1.here hx rfl (hb hby own_d_prog_14_method_3_5) rfl k) ?_
  show own_E p e below _ T1 (mkF m 6 #[rv a1, iv 5, iv p1] [.int p1, .int 5, .ref a2])
  obtain ⟨T2, h2, X2, e2, W2, Vw2, st2⟩ := own_ast X1 hx hZ e1 V_a2 (j := (5 : Int32)) ⟨by decide, by decide⟩ (x := p1) (i := 5) rfl (Nat.le_of_ble_eq_true rfl) (g := (mkF m 6 #[rv a1, iv 5, iv p1] [.int p1, .int 5, .ref a2])) rfl rfl (hb hby own_d_prog_14_method_3_6)
  have V2 : Arv Z h2 a2 kc1 .int (16 : Int32) [(.int ea0), (.int ea1), (.int ea2), (.int ea3), (.int ea4), (.int p1), (.int ea6), (.int ea7), (.int ea8), (.int ea9), (.int ea10), (.int ea11), (.int ea12), (.int ea13), (.int ea14), (.int ea15)] (.int (0 : Int32)) := Vw2
  have N2 := Fr.snoc X2 (Fr.nil n0) g_a2
  have Z3 := Nat.le_trans Z0 (Keep.of_wr W2).1
  have K4 : Keep h0 _ [a2] := (Keep.refl h0 [a2]).wr W2 (Or.inl (List.mem_of_getElem? (i := 0) rfl))
  refine own_st st2 ?_
  show own_E p e below _ T2 (mkF m 7 #[rv a1, iv 5, iv p1] [])
  refine own_retV X2 hx Bd.notSynchronized Bd.returns (hb hby own_d_prog_14_method_3_7) (by decide) (by decide) ?_
  show own_set5_Q Z a1 a2 kc1 p1 ea0 ea1 ea2 ea3 ea4 ea5 ea6 ea7 ea8 ea9 ea10 ea11 ea12 ea13 ea14 ea15 h0 n0 _ T2.heap _
  rw [e2]
  exact ⟨rfl, N2, K4, V2⟩
def own_set6_Q (Z : State) (a1 : Addr) (a2 : Addr) (kc1 : ClassId) (p1 : Int32) (ea0 : Int32) (ea1 : Int32) (ea2 : Int32) (ea3 : Int32) (ea4 : Int32) (ea5 : Int32) (ea6 : Int32) (ea7 : Int32) (ea8 : Int32) (ea9 : Int32) (ea10 : Int32) (ea11 : Int32) (ea12 : Int32) (ea13 : Int32) (ea14 : Int32) (ea15 : Int32) (h0 : Heap) (n0 : Nat) (v : Option Value) (h : Heap) (L : List Loc) : Prop := v = none ∧ Fr n0 L ∧ Keep h0 h [a2] ∧ Arv Z h a2 kc1 .int (16 : Int32) [(.int ea0), (.int ea1), (.int ea2), (.int ea3), (.int ea4), (.int ea5), (.int p1), (.int ea7), (.int ea8), (.int ea9), (.int ea10), (.int ea11), (.int ea12), (.int ea13), (.int ea14), (.int ea15)] (.int (0 : Int32))
theorem own_set6_ef (m : MethodId) (a1 : Addr) (a2 : Addr) (kc1 : ClassId) (p1 : Int32) (ea0 : Int32) (ea1 : Int32) (ea2 : Int32) (ea3 : Int32) (ea4 : Int32) (ea5 : Int32) (ea6 : Int32) (ea7 : Int32) (ea8 : Int32) (ea9 : Int32) (ea10 : Int32) (ea11 : Int32) (ea12 : Int32) (ea13 : Int32) (ea14 : Int32) (ea15 : Int32) : entryFrame m #[(.ref a1), (.int (6 : Int32)), (.int p1)] 3 = mkF m 0 #[.val (.ref a1), .val (.int (6 : Int32)), .val (.int p1)] [] := by first | (simp [entryFrame, mkF, argsToLocals, Value.category]; done) | rfl
set_option maxRecDepth 65536 in
set_option maxHeartbeats 40000000 in
theorem own_set6 (l : Launch) (Z : State) (a0 : Array Value) (hw : ∀ d ∈ tables_1, d.before a0 Z = true) (ws : List Jvm.Cond) (a1 : Addr) (a2 : Addr) (kc1 : ClassId) (p1 : Int32) (ea0 : Int32) (ea1 : Int32) (ea2 : Int32) (ea3 : Int32) (ea4 : Int32) (ea5 : Int32) (ea6 : Int32) (ea7 : Int32) (ea8 : Int32) (ea9 : Int32) (ea10 : Int32) (ea11 : Int32) (ea12 : Int32) (ea13 : Int32) (ea14 : Int32) (ea15 : Int32) (h0 : Heap) (n0 : Nat) (Z0 : n0 ≤ h0.size) (F_values_a1 : Fld Z h0 a1 "com/example/kalchas/kalchas/IntList" "values" "[I" (.ref a2)) (V_a2 : Arv Z h0 a2 kc1 .int (16 : Int32) [(.int ea0), (.int ea1), (.int ea2), (.int ea3), (.int ea4), (.int ea5), (.int ea6), (.int ea7), (.int ea8), (.int ea9), (.int ea10), (.int ea11), (.int ea12), (.int ea13), (.int ea14), (.int ea15)] (.int (0 : Int32))) (ne12 : a1 ≠ a2) (g_a2 : n0 ≤ a2) :
    MetFree l own_y4 (head1 (Jvm.Cond.code own_y4 prog_14_method_3_code 3 none :: ws) ({ frames := 0, cells := 0, slots := 0, locals := 0 } : Room)) (fun a U => a = #[(.ref a1), (.int (6 : Int32)), (.int p1)] ∧ Z.Warmed39 U.vm ∧ U.heap = h0) (fun _ _ _ _ _ => True) (fun _ U o U' => ∃ v L, o = .returned v ∧ own_set6_Q Z a1 a2 kc1 p1 ea0 ea1 ea2 ea3 ea4 ea5 ea6 ea7 ea8 ea9 ea10 ea11 ea12 ea13 ea14 ea15 h0 n0 v U'.heap L ∧ FrameEnd U o U' L ({ frames := 0, cells := 0, slots := 0, locals := 0 } : Room).cells ({ frames := 0, cells := 0, slots := 0, locals := 0 } : Room).slots) := by
  refine MetFree.of_bodySF (plainFor_of_name own_pn_IntList) hisR ?_
  intro p e s m args below meth c s₁ Bd hml0 hP hK
  obtain ⟨rfl, hZ, hh⟩ := hP
  have hx := Bd.exec
  have hby := Bd.bytes
  have hml : c.maxLocals = 3 := hml0
  have hown : s.vm.findClass "com/example/kalchas/kalchas/IntList" = some m.cls := findClass_of_methodNamed Bd.named
  have hnm := (name_of_methodNamed Bd.named Bd.method).1
  have X0 : Stand p l e ({ frames := 0, cells := 0, slots := 0, locals := 0 } : Room) s m #[(.ref a1), (.int (6 : Int32)), (.int p1)] below meth c s₁ [] 0 0 := Stand.of_body Bd
  have e0 : s₁.heap = h0 := by rw [← hh, Bd.state]; rfl
  show own_E p e below (own_K (own_set6_Q Z a1 a2 kc1 p1 ea0 ea1 ea2 ea3 ea4 ea5 ea6 ea7 ea8 ea9 ea10 ea11 ea12 ea13 ea14 ea15 h0 n0) s ({ frames := 0, cells := 0, slots := 0, locals := 0 } : Room).cells ({ frames := 0, cells := 0, slots := 0, locals := 0 } : Room).slots) s₁ (entryFrame m #[(.ref a1), (.int (6 : Int32)), (.int p1)] 3)
  refine own_pre (own_set6_ef m a1 a2 kc1 p1 ea0 ea1 ea2 ea3 ea4 ea5 ea6 ea7 ea8 ea9 ea10 ea11 ea12 ea13 ea14 ea15) ?_
  show own_E p e below _ s₁ (mkF m 0 #[rv a1, iv 6, iv p1] [])
  refine own_st (fun t k => XS.aloadN X0.here hx rfl (hb hby own_d_prog_14_method_3_0) rfl rfl k) ?_
  show own_E p e below _ s₁ (mkF m 1 #[rv a1, iv 6, iv p1] [.ref a1])
  obtain ⟨T1, X1, e1, st1⟩ := getF X0 hx hZ hown (host := "") (Or.inl (own_w hw 11 rfl)) Via.refl e0 F_values_a1 (g := (mkF m 1 #[rv a1, iv 6, iv p1] [.ref a1])) rfl rfl (hb hby own_d_prog_14_method_3_1)
  refine own_st st1 ?_
  show own_E p e below _ T1 (mkF m 4 #[rv a1, iv 6, iv p1] [.ref a2])
  refine own_st (fun t k => XS.iloadN X1.here hx rfl (hb hby own_d_prog_14_method_3_4) rfl k) ?_
  show own_E p e below _ T1 (mkF m 5 #[rv a1, iv 6, iv p1] [.int 6, .ref a2])
  refine own_st (fun t k => XS.iloadN X1.here hx rfl (hb hby own_d_prog_14_method_3_5) rfl k) ?_
  show own_E p e below _ T1 (mkF m 6 #[rv a1, iv 6, iv p1] [.int p1, .int 6, .ref a2])
  obtain ⟨T2, h2, X2, e2, W2, Vw2, st2⟩ := own_ast X1 hx hZ e1 V_a2 (j := (6 : Int32)) ⟨by decide, by decide⟩ (x := p1) (i := 6) rfl (Nat.le_of_ble_eq_true rfl) (g := (mkF m 6 #[rv a1, iv 6, iv p1] [.int p1, .int 6, .ref a2])) rfl rfl (hb hby own_d_prog_14_method_3_6)
  have V2 : Arv Z h2 a2 kc1 .int (16 : Int32) [(.int ea0), (.int ea1), (.int ea2), (.int ea3), (.int ea4), (.int ea5), (.int p1), (.int ea7), (.int ea8), (.int ea9), (.int ea10), (.int ea11), (.int ea12), (.int ea13), (.int ea14), (.int ea15)] (.int (0 : Int32)) := Vw2
  have N2 := Fr.snoc X2 (Fr.nil n0) g_a2
  have Z3 := Nat.le_trans Z0 (Keep.of_wr W2).1
  have K4 : Keep h0 _ [a2] := (Keep.refl h0 [a2]).wr W2 (Or.inl (List.mem_of_getElem? (i := 0) rfl))
  refine own_st st2 ?_
  show own_E p e below _ T2 (mkF m 7 #[rv a1, iv 6, iv p1] [])
  refine own_retV X2 hx Bd.notSynchronized Bd.returns (hb hby own_d_prog_14_method_3_7) (by decide) (by decide) ?_
  show own_set6_Q Z a1 a2 kc1 p1 ea0 ea1 ea2 ea3 ea4 ea5 ea6 ea7 ea8 ea9 ea10 ea11 ea12 ea13 ea14 ea15 h0 n0 _ T2.heap _
  rw [e2]
  exact ⟨rfl, N2, K4, V2⟩
def own_set7_Q (Z : State) (a1 : Addr) (a2 : Addr) (kc1 : ClassId) (p1 : Int32) (ea0 : Int32) (ea1 : Int32) (ea2 : Int32) (ea3 : Int32) (ea4 : Int32) (ea5 : Int32) (ea6 : Int32) (ea7 : Int32) (ea8 : Int32) (ea9 : Int32) (ea10 : Int32) (ea11 : Int32) (ea12 : Int32) (ea13 : Int32) (ea14 : Int32) (ea15 : Int32) (h0 : Heap) (n0 : Nat) (v : Option Value) (h : Heap) (L : List Loc) : Prop := v = none ∧ Fr n0 L ∧ Keep h0 h [a2] ∧ Arv Z h a2 kc1 .int (16 : Int32) [(.int ea0), (.int ea1), (.int ea2), (.int ea3), (.int ea4), (.int ea5), (.int ea6), (.int p1), (.int ea8), (.int ea9), (.int ea10), (.int ea11), (.int ea12), (.int ea13), (.int ea14), (.int ea15)] (.int (0 : Int32))
theorem own_set7_ef (m : MethodId) (a1 : Addr) (a2 : Addr) (kc1 : ClassId) (p1 : Int32) (ea0 : Int32) (ea1 : Int32) (ea2 : Int32) (ea3 : Int32) (ea4 : Int32) (ea5 : Int32) (ea6 : Int32) (ea7 : Int32) (ea8 : Int32) (ea9 : Int32) (ea10 : Int32) (ea11 : Int32) (ea12 : Int32) (ea13 : Int32) (ea14 : Int32) (ea15 : Int32) : entryFrame m #[(.ref a1), (.int (7 : Int32)), (.int p1)] 3 = mkF m 0 #[.val (.ref a1), .val (.int (7 : Int32)), .val (.int p1)] [] := by first | (simp [entryFrame, mkF, argsToLocals, Value.category]; done) | rfl
set_option maxRecDepth 65536 in
set_option maxHeartbeats 40000000 in
theorem own_set7 (l : Launch) (Z : State) (a0 : Array Value) (hw : ∀ d ∈ tables_1, d.before a0 Z = true) (ws : List Jvm.Cond) (a1 : Addr) (a2 : Addr) (kc1 : ClassId) (p1 : Int32) (ea0 : Int32) (ea1 : Int32) (ea2 : Int32) (ea3 : Int32) (ea4 : Int32) (ea5 : Int32) (ea6 : Int32) (ea7 : Int32) (ea8 : Int32) (ea9 : Int32) (ea10 : Int32) (ea11 : Int32) (ea12 : Int32) (ea13 : Int32) (ea14 : Int32) (ea15 : Int32) (h0 : Heap) (n0 : Nat) (Z0 : n0 ≤ h0.size) (F_values_a1 : Fld Z h0 a1 "com/example/kalchas/kalchas/IntList" "values" "[I" (.ref a2)) (V_a2 : Arv Z h0 a2 kc1 .int (16 : Int32) [(.int ea0), (.int ea1), (.int ea2), (.int ea3), (.int ea4), (.int ea5), (.int ea6), (.int ea7), (.int ea8), (.int ea9), (.int ea10), (.int ea11), (.int ea12), (.int ea13), (.int ea14), (.int ea15)] (.int (0 : Int32))) (ne12 : a1 ≠ a2) (g_a2 : n0 ≤ a2) :
    MetFree l own_y4 (head1 (Jvm.Cond.code own_y4 prog_14_method_3_code 3 none :: ws) ({ frames := 0, cells := 0, slots := 0, locals := 0 } : Room)) (fun a U => a = #[(.ref a1), (.int (7 : Int32)), (.int p1)] ∧ Z.Warmed39 U.vm ∧ U.heap = h0) (fun _ _ _ _ _ => True) (fun _ U o U' => ∃ v L, o = .returned v ∧ own_set7_Q Z a1 a2 kc1 p1 ea0 ea1 ea2 ea3 ea4 ea5 ea6 ea7 ea8 ea9 ea10 ea11 ea12 ea13 ea14 ea15 h0 n0 v U'.heap L ∧ FrameEnd U o U' L ({ frames := 0, cells := 0, slots := 0, locals := 0 } : Room).cells ({ frames := 0, cells := 0, slots := 0, locals := 0 } : Room).slots) := by
  refine MetFree.of_bodySF (plainFor_of_name own_pn_IntList) hisR ?_
  intro p e s m args below meth c s₁ Bd hml0 hP hK
  obtain ⟨rfl, hZ, hh⟩ := hP
  have hx := Bd.exec
  have hby := Bd.bytes
  have hml : c.maxLocals = 3 := hml0
  have hown : s.vm.findClass "com/example/kalchas/kalchas/IntList" = some m.cls := findClass_of_methodNamed Bd.named
  have hnm := (name_of_methodNamed Bd.named Bd.method).1
  have X0 : Stand p l e ({ frames := 0, cells := 0, slots := 0, locals := 0 } : Room) s m #[(.ref a1), (.int (7 : Int32)), (.int p1)] below meth c s₁ [] 0 0 := Stand.of_body Bd
  have e0 : s₁.heap = h0 := by rw [← hh, Bd.state]; rfl
  show own_E p e below (own_K (own_set7_Q Z a1 a2 kc1 p1 ea0 ea1 ea2 ea3 ea4 ea5 ea6 ea7 ea8 ea9 ea10 ea11 ea12 ea13 ea14 ea15 h0 n0) s ({ frames := 0, cells := 0, slots := 0, locals := 0 } : Room).cells ({ frames := 0, cells := 0, slots := 0, locals := 0 } : Room).slots) s₁ (entryFrame m #[(.ref a1), (.int (7 : Int32)), (.int p1)] 3)
  refine own_pre (own_set7_ef m a1 a2 kc1 p1 ea0 ea1 ea2 ea3 ea4 ea5 ea6 ea7 ea8 ea9 ea10 ea11 ea12 ea13 ea14 ea15) ?_
  show own_E p e below _ s₁ (mkF m 0 #[rv a1, iv 7, iv p1] [])
  refine own_st (fun t k => XS.aloadN X0.here hx rfl (hb hby own_d_prog_14_method_3_0) rfl rfl k) ?_
  show own_E p e below _ s₁ (mkF m 1 #[rv a1, iv 7, iv p1] [.ref a1])
  obtain ⟨T1, X1, e1, st1⟩ := getF X0 hx hZ hown (host := "") (Or.inl (own_w hw 11 rfl)) Via.refl e0 F_values_a1 (g := (mkF m 1 #[rv a1, iv 7, iv p1] [.ref a1])) rfl rfl (hb hby own_d_prog_14_method_3_1)
  refine own_st st1 ?_
  show own_E p e below _ T1 (mkF m 4 #[rv a1, iv 7, iv p1] [.ref a2])
  refine own_st (fun t k => XS.iloadN X1.here hx rfl (hb hby own_d_prog_14_method_3_4) rfl k) ?_
  show own_E p e below _ T1 (mkF m 5 #[rv a1, iv 7, iv p1] [.int 7, .ref a2])
  refine own_st (fun t k => XS.iloadN X1.here hx rfl (hb hby own_d_prog_14_method_3_5) rfl k) ?_
  show own_E p e below _ T1 (mkF m 6 #[rv a1, iv 7, iv p1] [.int p1, .int 7, .ref a2])
  obtain ⟨T2, h2, X2, e2, W2, Vw2, st2⟩ := own_ast X1 hx hZ e1 V_a2 (j := (7 : Int32)) ⟨by decide, by decide⟩ (x := p1) (i := 7) rfl (Nat.le_of_ble_eq_true rfl) (g := (mkF m 6 #[rv a1, iv 7, iv p1] [.int p1, .int 7, .ref a2])) rfl rfl (hb hby own_d_prog_14_method_3_6)
  have V2 : Arv Z h2 a2 kc1 .int (16 : Int32) [(.int ea0), (.int ea1), (.int ea2), (.int ea3), (.int ea4), (.int ea5), (.int ea6), (.int p1), (.int ea8), (.int ea9), (.int ea10), (.int ea11), (.int ea12), (.int ea13), (.int ea14), (.int ea15)] (.int (0 : Int32)) := Vw2
  have N2 := Fr.snoc X2 (Fr.nil n0) g_a2
  have Z3 := Nat.le_trans Z0 (Keep.of_wr W2).1
  have K4 : Keep h0 _ [a2] := (Keep.refl h0 [a2]).wr W2 (Or.inl (List.mem_of_getElem? (i := 0) rfl))
  refine own_st st2 ?_
  show own_E p e below _ T2 (mkF m 7 #[rv a1, iv 7, iv p1] [])
  refine own_retV X2 hx Bd.notSynchronized Bd.returns (hb hby own_d_prog_14_method_3_7) (by decide) (by decide) ?_
  show own_set7_Q Z a1 a2 kc1 p1 ea0 ea1 ea2 ea3 ea4 ea5 ea6 ea7 ea8 ea9 ea10 ea11 ea12 ea13 ea14 ea15 h0 n0 _ T2.heap _
  rw [e2]
  exact ⟨rfl, N2, K4, V2⟩
def own_set8_Q (Z : State) (a1 : Addr) (a2 : Addr) (kc1 : ClassId) (p1 : Int32) (ea0 : Int32) (ea1 : Int32) (ea2 : Int32) (ea3 : Int32) (ea4 : Int32) (ea5 : Int32) (ea6 : Int32) (ea7 : Int32) (ea8 : Int32) (ea9 : Int32) (ea10 : Int32) (ea11 : Int32) (ea12 : Int32) (ea13 : Int32) (ea14 : Int32) (ea15 : Int32) (h0 : Heap) (n0 : Nat) (v : Option Value) (h : Heap) (L : List Loc) : Prop := v = none ∧ Fr n0 L ∧ Keep h0 h [a2] ∧ Arv Z h a2 kc1 .int (16 : Int32) [(.int ea0), (.int ea1), (.int ea2), (.int ea3), (.int ea4), (.int ea5), (.int ea6), (.int ea7), (.int p1), (.int ea9), (.int ea10), (.int ea11), (.int ea12), (.int ea13), (.int ea14), (.int ea15)] (.int (0 : Int32))
theorem own_set8_ef (m : MethodId) (a1 : Addr) (a2 : Addr) (kc1 : ClassId) (p1 : Int32) (ea0 : Int32) (ea1 : Int32) (ea2 : Int32) (ea3 : Int32) (ea4 : Int32) (ea5 : Int32) (ea6 : Int32) (ea7 : Int32) (ea8 : Int32) (ea9 : Int32) (ea10 : Int32) (ea11 : Int32) (ea12 : Int32) (ea13 : Int32) (ea14 : Int32) (ea15 : Int32) : entryFrame m #[(.ref a1), (.int (8 : Int32)), (.int p1)] 3 = mkF m 0 #[.val (.ref a1), .val (.int (8 : Int32)), .val (.int p1)] [] := by first | (simp [entryFrame, mkF, argsToLocals, Value.category]; done) | rfl
set_option maxRecDepth 65536 in
set_option maxHeartbeats 40000000 in
theorem own_set8 (l : Launch) (Z : State) (a0 : Array Value) (hw : ∀ d ∈ tables_1, d.before a0 Z = true) (ws : List Jvm.Cond) (a1 : Addr) (a2 : Addr) (kc1 : ClassId) (p1 : Int32) (ea0 : Int32) (ea1 : Int32) (ea2 : Int32) (ea3 : Int32) (ea4 : Int32) (ea5 : Int32) (ea6 : Int32) (ea7 : Int32) (ea8 : Int32) (ea9 : Int32) (ea10 : Int32) (ea11 : Int32) (ea12 : Int32) (ea13 : Int32) (ea14 : Int32) (ea15 : Int32) (h0 : Heap) (n0 : Nat) (Z0 : n0 ≤ h0.size) (F_values_a1 : Fld Z h0 a1 "com/example/kalchas/kalchas/IntList" "values" "[I" (.ref a2)) (V_a2 : Arv Z h0 a2 kc1 .int (16 : Int32) [(.int ea0), (.int ea1), (.int ea2), (.int ea3), (.int ea4), (.int ea5), (.int ea6), (.int ea7), (.int ea8), (.int ea9), (.int ea10), (.int ea11), (.int ea12), (.int ea13), (.int ea14), (.int ea15)] (.int (0 : Int32))) (ne12 : a1 ≠ a2) (g_a2 : n0 ≤ a2) :
    MetFree l own_y4 (head1 (Jvm.Cond.code own_y4 prog_14_method_3_code 3 none :: ws) ({ frames := 0, cells := 0, slots := 0, locals := 0 } : Room)) (fun a U => a = #[(.ref a1), (.int (8 : Int32)), (.int p1)] ∧ Z.Warmed39 U.vm ∧ U.heap = h0) (fun _ _ _ _ _ => True) (fun _ U o U' => ∃ v L, o = .returned v ∧ own_set8_Q Z a1 a2 kc1 p1 ea0 ea1 ea2 ea3 ea4 ea5 ea6 ea7 ea8 ea9 ea10 ea11 ea12 ea13 ea14 ea15 h0 n0 v U'.heap L ∧ FrameEnd U o U' L ({ frames := 0, cells := 0, slots := 0, locals := 0 } : Room).cells ({ frames := 0, cells := 0, slots := 0, locals := 0 } : Room).slots) := by
  refine MetFree.of_bodySF (plainFor_of_name own_pn_IntList) hisR ?_
  intro p e s m args below meth c s₁ Bd hml0 hP hK
  obtain ⟨rfl, hZ, hh⟩ := hP
  have hx := Bd.exec
  have hby := Bd.bytes
  have hml : c.maxLocals = 3 := hml0
  have hown : s.vm.findClass "com/example/kalchas/kalchas/IntList" = some m.cls := findClass_of_methodNamed Bd.named
  have hnm := (name_of_methodNamed Bd.named Bd.method).1
  have X0 : Stand p l e ({ frames := 0, cells := 0, slots := 0, locals := 0 } : Room) s m #[(.ref a1), (.int (8 : Int32)), (.int p1)] below meth c s₁ [] 0 0 := Stand.of_body Bd
  have e0 : s₁.heap = h0 := by rw [← hh, Bd.state]; rfl
  show own_E p e below (own_K (own_set8_Q Z a1 a2 kc1 p1 ea0 ea1 ea2 ea3 ea4 ea5 ea6 ea7 ea8 ea9 ea10 ea11 ea12 ea13 ea14 ea15 h0 n0) s ({ frames := 0, cells := 0, slots := 0, locals := 0 } : Room).cells ({ frames := 0, cells := 0, slots := 0, locals := 0 } : Room).slots) s₁ (entryFrame m #[(.ref a1), (.int (8 : Int32)), (.int p1)] 3)
  refine own_pre (own_set8_ef m a1 a2 kc1 p1 ea0 ea1 ea2 ea3 ea4 ea5 ea6 ea7 ea8 ea9 ea10 ea11 ea12 ea13 ea14 ea15) ?_
  show own_E p e below _ s₁ (mkF m 0 #[rv a1, iv 8, iv p1] [])
  refine own_st (fun t k => XS.aloadN X0.here hx rfl (hb hby own_d_prog_14_method_3_0) rfl rfl k) ?_
  show own_E p e below _ s₁ (mkF m 1 #[rv a1, iv 8, iv p1] [.ref a1])
  obtain ⟨T1, X1, e1, st1⟩ := getF X0 hx hZ hown (host := "") (Or.inl (own_w hw 11 rfl)) Via.refl e0 F_values_a1 (g := (mkF m 1 #[rv a1, iv 8, iv p1] [.ref a1])) rfl rfl (hb hby own_d_prog_14_method_3_1)
  refine own_st st1 ?_
  show own_E p e below _ T1 (mkF m 4 #[rv a1, iv 8, iv p1] [.ref a2])
  refine own_st (fun t k => XS.iloadN X1.here hx rfl (hb hby own_d_prog_14_method_3_4) rfl k) ?_
  show own_E p e below _ T1 (mkF m 5 #[rv a1, iv 8, iv p1] [.int 8, .ref a2])
  refine own_st (fun t k => XS.iloadN X1.here hx rfl (hb hby own_d_prog_14_method_3_5) rfl k) ?_
  show own_E p e below _ T1 (mkF m 6 #[rv a1, iv 8, iv p1] [.int p1, .int 8, .ref a2])
  obtain ⟨T2, h2, X2, e2, W2, Vw2, st2⟩ := own_ast X1 hx hZ e1 V_a2 (j := (8 : Int32)) ⟨by decide, by decide⟩ (x := p1) (i := 8) rfl (Nat.le_of_ble_eq_true rfl) (g := (mkF m 6 #[rv a1, iv 8, iv p1] [.int p1, .int 8, .ref a2])) rfl rfl (hb hby own_d_prog_14_method_3_6)
  have V2 : Arv Z h2 a2 kc1 .int (16 : Int32) [(.int ea0), (.int ea1), (.int ea2), (.int ea3), (.int ea4), (.int ea5), (.int ea6), (.int ea7), (.int p1), (.int ea9), (.int ea10), (.int ea11), (.int ea12), (.int ea13), (.int ea14), (.int ea15)] (.int (0 : Int32)) := Vw2
  have N2 := Fr.snoc X2 (Fr.nil n0) g_a2
  have Z3 := Nat.le_trans Z0 (Keep.of_wr W2).1
  have K4 : Keep h0 _ [a2] := (Keep.refl h0 [a2]).wr W2 (Or.inl (List.mem_of_getElem? (i := 0) rfl))
  refine own_st st2 ?_
  show own_E p e below _ T2 (mkF m 7 #[rv a1, iv 8, iv p1] [])
  refine own_retV X2 hx Bd.notSynchronized Bd.returns (hb hby own_d_prog_14_method_3_7) (by decide) (by decide) ?_
  show own_set8_Q Z a1 a2 kc1 p1 ea0 ea1 ea2 ea3 ea4 ea5 ea6 ea7 ea8 ea9 ea10 ea11 ea12 ea13 ea14 ea15 h0 n0 _ T2.heap _
  rw [e2]
  exact ⟨rfl, N2, K4, V2⟩
def own_set9_Q (Z : State) (a1 : Addr) (a2 : Addr) (kc1 : ClassId) (p1 : Int32) (ea0 : Int32) (ea1 : Int32) (ea2 : Int32) (ea3 : Int32) (ea4 : Int32) (ea5 : Int32) (ea6 : Int32) (ea7 : Int32) (ea8 : Int32) (ea9 : Int32) (ea10 : Int32) (ea11 : Int32) (ea12 : Int32) (ea13 : Int32) (ea14 : Int32) (ea15 : Int32) (h0 : Heap) (n0 : Nat) (v : Option Value) (h : Heap) (L : List Loc) : Prop := v = none ∧ Fr n0 L ∧ Keep h0 h [a2] ∧ Arv Z h a2 kc1 .int (16 : Int32) [(.int ea0), (.int ea1), (.int ea2), (.int ea3), (.int ea4), (.int ea5), (.int ea6), (.int ea7), (.int ea8), (.int p1), (.int ea10), (.int ea11), (.int ea12), (.int ea13), (.int ea14), (.int ea15)] (.int (0 : Int32))
theorem own_set9_ef (m : MethodId) (a1 : Addr) (a2 : Addr) (kc1 : ClassId) (p1 : Int32) (ea0 : Int32) (ea1 : Int32) (ea2 : Int32) (ea3 : Int32) (ea4 : Int32) (ea5 : Int32) (ea6 : Int32) (ea7 : Int32) (ea8 : Int32) (ea9 : Int32) (ea10 : Int32) (ea11 : Int32) (ea12 : Int32) (ea13 : Int32) (ea14 : Int32) (ea15 : Int32) : entryFrame m #[(.ref a1), (.int (9 : Int32)), (.int p1)] 3 = mkF m 0 #[.val (.ref a1), .val (.int (9 : Int32)), .val (.int p1)] [] := by first | (simp [entryFrame, mkF, argsToLocals, Value.category]; done) | rfl
set_option maxRecDepth 65536 in
set_option maxHeartbeats 40000000 in
theorem own_set9 (l : Launch) (Z : State) (a0 : Array Value) (hw : ∀ d ∈ tables_1, d.before a0 Z = true) (ws : List Jvm.Cond) (a1 : Addr) (a2 : Addr) (kc1 : ClassId) (p1 : Int32) (ea0 : Int32) (ea1 : Int32) (ea2 : Int32) (ea3 : Int32) (ea4 : Int32) (ea5 : Int32) (ea6 : Int32) (ea7 : Int32) (ea8 : Int32) (ea9 : Int32) (ea10 : Int32) (ea11 : Int32) (ea12 : Int32) (ea13 : Int32) (ea14 : Int32) (ea15 : Int32) (h0 : Heap) (n0 : Nat) (Z0 : n0 ≤ h0.size) (F_values_a1 : Fld Z h0 a1 "com/example/kalchas/kalchas/IntList" "values" "[I" (.ref a2)) (V_a2 : Arv Z h0 a2 kc1 .int (16 : Int32) [(.int ea0), (.int ea1), (.int ea2), (.int ea3), (.int ea4), (.int ea5), (.int ea6), (.int ea7), (.int ea8), (.int ea9), (.int ea10), (.int ea11), (.int ea12), (.int ea13), (.int ea14), (.int ea15)] (.int (0 : Int32))) (ne12 : a1 ≠ a2) (g_a2 : n0 ≤ a2) :
    MetFree l own_y4 (head1 (Jvm.Cond.code own_y4 prog_14_method_3_code 3 none :: ws) ({ frames := 0, cells := 0, slots := 0, locals := 0 } : Room)) (fun a U => a = #[(.ref a1), (.int (9 : Int32)), (.int p1)] ∧ Z.Warmed39 U.vm ∧ U.heap = h0) (fun _ _ _ _ _ => True) (fun _ U o U' => ∃ v L, o = .returned v ∧ own_set9_Q Z a1 a2 kc1 p1 ea0 ea1 ea2 ea3 ea4 ea5 ea6 ea7 ea8 ea9 ea10 ea11 ea12 ea13 ea14 ea15 h0 n0 v U'.heap L ∧ FrameEnd U o U' L ({ frames := 0, cells := 0, slots := 0, locals := 0 } : Room).cells ({ frames := 0, cells := 0, slots := 0, locals := 0 } : Room).slots) := by
  refine MetFree.of_bodySF (plainFor_of_name own_pn_IntList) hisR ?_
  intro p e s m args below meth c s₁ Bd hml0 hP hK
  obtain ⟨rfl, hZ, hh⟩ := hP
  have hx := Bd.exec
  have hby := Bd.bytes
  have hml : c.maxLocals = 3 := hml0
  have hown : s.vm.findClass "com/example/kalchas/kalchas/IntList" = some m.cls := findClass_of_methodNamed Bd.named
  have hnm := (name_of_methodNamed Bd.named Bd.method).1
  have X0 : Stand p l e ({ frames := 0, cells := 0, slots := 0, locals := 0 } : Room) s m #[(.ref a1), (.int (9 : Int32)), (.int p1)] below meth c s₁ [] 0 0 := Stand.of_body Bd
  have e0 : s₁.heap = h0 := by rw [← hh, Bd.state]; rfl
  show own_E p e below (own_K (own_set9_Q Z a1 a2 kc1 p1 ea0 ea1 ea2 ea3 ea4 ea5 ea6 ea7 ea8 ea9 ea10 ea11 ea12 ea13 ea14 ea15 h0 n0) s ({ frames := 0, cells := 0, slots := 0, locals := 0 } : Room).cells ({ frames := 0, cells := 0, slots := 0, locals := 0 } : Room).slots) s₁ (entryFrame m #[(.ref a1), (.int (9 : Int32)), (.int p1)] 3)
  refine own_pre (own_set9_ef m a1 a2 kc1 p1 ea0 ea1 ea2 ea3 ea4 ea5 ea6 ea7 ea8 ea9 ea10 ea11 ea12 ea13 ea14 ea15) ?_
  show own_E p e below _ s₁ (mkF m 0 #[rv a1, iv 9, iv p1] [])
  refine own_st (fun t k => XS.aloadN X0.here hx rfl (hb hby own_d_prog_14_method_3_0) rfl rfl k) ?_
  show own_E p e below _ s₁ (mkF m 1 #[rv a1, iv 9, iv p1] [.ref a1])
  obtain ⟨T1, X1, e1, st1⟩ := getF X0 hx hZ hown (host := "") (Or.inl (own_w hw 11 rfl)) Via.refl e0 F_values_a1 (g := (mkF m 1 #[rv a1, iv 9, iv p1] [.ref a1])) rfl rfl (hb hby own_d_prog_14_method_3_1)
  refine own_st st1 ?_
  show own_E p e below _ T1 (mkF m 4 #[rv a1, iv 9, iv p1] [.ref a2])
  refine own_st (fun t k => XS.iloadN X1.here hx rfl (hb hby own_d_prog_14_method_3_4) rfl k) ?_
  show own_E p e below _ T1 (mkF m 5 #[rv a1, iv 9, iv p1] [.int 9, .ref a2])
  refine own_st (fun t k => XS.iloadN X1.here hx rfl (hb hby own_d_prog_14_method_3_5) rfl k) ?_
  show own_E p e below _ T1 (mkF m 6 #[rv a1, iv 9, iv p1] [.int p1, .int 9, .ref a2])
  obtain ⟨T2, h2, X2, e2, W2, Vw2, st2⟩ := own_ast X1 hx hZ e1 V_a2 (j := (9 : Int32)) ⟨by decide, by decide⟩ (x := p1) (i := 9) rfl (Nat.le_of_ble_eq_true rfl) (g := (mkF m 6 #[rv a1, iv 9, iv p1] [.int p1, .int 9, .ref a2])) rfl rfl (hb hby own_d_prog_14_method_3_6)
  have V2 : Arv Z h2 a2 kc1 .int (16 : Int32) [(.int ea0), (.int ea1), (.int ea2), (.int ea3), (.int ea4), (.int ea5), (.int ea6), (.int ea7), (.int ea8), (.int p1), (.int ea10), (.int ea11), (.int ea12), (.int ea13), (.int ea14), (.int ea15)] (.int (0 : Int32)) := Vw2
  have N2 := Fr.snoc X2 (Fr.nil n0) g_a2
  have Z3 := Nat.le_trans Z0 (Keep.of_wr W2).1
  have K4 : Keep h0 _ [a2] := (Keep.refl h0 [a2]).wr W2 (Or.inl (List.mem_of_getElem? (i := 0) rfl))
  refine own_st st2 ?_
  show own_E p e below _ T2 (mkF m 7 #[rv a1, iv 9, iv p1] [])
  refine own_retV X2 hx Bd.notSynchronized Bd.returns (hb hby own_d_prog_14_method_3_7) (by decide) (by decide) ?_
  show own_set9_Q Z a1 a2 kc1 p1 ea0 ea1 ea2 ea3 ea4 ea5 ea6 ea7 ea8 ea9 ea10 ea11 ea12 ea13 ea14 ea15 h0 n0 _ T2.heap _
  rw [e2]
  exact ⟨rfl, N2, K4, V2⟩
def own_set10_Q (Z : State) (a1 : Addr) (a2 : Addr) (kc1 : ClassId) (p1 : Int32) (ea0 : Int32) (ea1 : Int32) (ea2 : Int32) (ea3 : Int32) (ea4 : Int32) (ea5 : Int32) (ea6 : Int32) (ea7 : Int32) (ea8 : Int32) (ea9 : Int32) (ea10 : Int32) (ea11 : Int32) (ea12 : Int32) (ea13 : Int32) (ea14 : Int32) (ea15 : Int32) (h0 : Heap) (n0 : Nat) (v : Option Value) (h : Heap) (L : List Loc) : Prop := v = none ∧ Fr n0 L ∧ Keep h0 h [a2] ∧ Arv Z h a2 kc1 .int (16 : Int32) [(.int ea0), (.int ea1), (.int ea2), (.int ea3), (.int ea4), (.int ea5), (.int ea6), (.int ea7), (.int ea8), (.int ea9), (.int p1), (.int ea11), (.int ea12), (.int ea13), (.int ea14), (.int ea15)] (.int (0 : Int32))
theorem own_set10_ef (m : MethodId) (a1 : Addr) (a2 : Addr) (kc1 : ClassId) (p1 : Int32) (ea0 : Int32) (ea1 : Int32) (ea2 : Int32) (ea3 : Int32) (ea4 : Int32) (ea5 : Int32) (ea6 : Int32) (ea7 : Int32) (ea8 : Int32) (ea9 : Int32) (ea10 : Int32) (ea11 : Int32) (ea12 : Int32) (ea13 : Int32) (ea14 : Int32) (ea15 : Int32) : entryFrame m #[(.ref a1), (.int (10 : Int32)), (.int p1)] 3 = mkF m 0 #[.val (.ref a1), .val (.int (10 : Int32)), .val (.int p1)] [] := by first | (simp [entryFrame, mkF, argsToLocals, Value.category]; done) | rfl
set_option maxRecDepth 65536 in
set_option maxHeartbeats 40000000 in
theorem own_set10 (l : Launch) (Z : State) (a0 : Array Value) (hw : ∀ d ∈ tables_1, d.before a0 Z = true) (ws : List Jvm.Cond) (a1 : Addr) (a2 : Addr) (kc1 : ClassId) (p1 : Int32) (ea0 : Int32) (ea1 : Int32) (ea2 : Int32) (ea3 : Int32) (ea4 : Int32) (ea5 : Int32) (ea6 : Int32) (ea7 : Int32) (ea8 : Int32) (ea9 : Int32) (ea10 : Int32) (ea11 : Int32) (ea12 : Int32) (ea13 : Int32) (ea14 : Int32) (ea15 : Int32) (h0 : Heap) (n0 : Nat) (Z0 : n0 ≤ h0.size) (F_values_a1 : Fld Z h0 a1 "com/example/kalchas/kalchas/IntList" "values" "[I" (.ref a2)) (V_a2 : Arv Z h0 a2 kc1 .int (16 : Int32) [(.int ea0), (.int ea1), (.int ea2), (.int ea3), (.int ea4), (.int ea5), (.int ea6), (.int ea7), (.int ea8), (.int ea9), (.int ea10), (.int ea11), (.int ea12), (.int ea13), (.int ea14), (.int ea15)] (.int (0 : Int32))) (ne12 : a1 ≠ a2) (g_a2 : n0 ≤ a2) :
    MetFree l own_y4 (head1 (Jvm.Cond.code own_y4 prog_14_method_3_code 3 none :: ws) ({ frames := 0, cells := 0, slots := 0, locals := 0 } : Room)) (fun a U => a = #[(.ref a1), (.int (10 : Int32)), (.int p1)] ∧ Z.Warmed39 U.vm ∧ U.heap = h0) (fun _ _ _ _ _ => True) (fun _ U o U' => ∃ v L, o = .returned v ∧ own_set10_Q Z a1 a2 kc1 p1 ea0 ea1 ea2 ea3 ea4 ea5 ea6 ea7 ea8 ea9 ea10 ea11 ea12 ea13 ea14 ea15 h0 n0 v U'.heap L ∧ FrameEnd U o U' L ({ frames := 0, cells := 0, slots := 0, locals := 0 } : Room).cells ({ frames := 0, cells := 0, slots := 0, locals := 0 } : Room).slots) := by
  refine MetFree.of_bodySF (plainFor_of_name own_pn_IntList) hisR ?_
  intro p e s m args below meth c s₁ Bd hml0 hP hK
  obtain ⟨rfl, hZ, hh⟩ := hP
  have hx := Bd.exec
  have hby := Bd.bytes
  have hml : c.maxLocals = 3 := hml0
  have hown : s.vm.findClass "com/example/kalchas/kalchas/IntList" = some m.cls := findClass_of_methodNamed Bd.named
  have hnm := (name_of_methodNamed Bd.named Bd.method).1
  have X0 : Stand p l e ({ frames := 0, cells := 0, slots := 0, locals := 0 } : Room) s m #[(.ref a1), (.int (10 : Int32)), (.int p1)] below meth c s₁ [] 0 0 := Stand.of_body Bd
  have e0 : s₁.heap = h0 := by rw [← hh, Bd.state]; rfl
  show own_E p e below (own_K (own_set10_Q Z a1 a2 kc1 p1 ea0 ea1 ea2 ea3 ea4 ea5 ea6 ea7 ea8 ea9 ea10 ea11 ea12 ea13 ea14 ea15 h0 n0) s ({ frames := 0, cells := 0, slots := 0, locals := 0 } : Room).cells ({ frames := 0, cells := 0, slots := 0, locals := 0 } : Room).slots) s₁ (entryFrame m #[(.ref a1), (.int (10 : Int32)), (.int p1)] 3)
  refine own_pre (own_set10_ef m a1 a2 kc1 p1 ea0 ea1 ea2 ea3 ea4 ea5 ea6 ea7 ea8 ea9 ea10 ea11 ea12 ea13 ea14 ea15) ?_
  show own_E p e below _ s₁ (mkF m 0 #[rv a1, iv 10, iv p1] [])
  refine own_st (fun t k => XS.aloadN X0.here hx rfl (hb hby own_d_prog_14_method_3_0) rfl rfl k) ?_
  show own_E p e below _ s₁ (mkF m 1 #[rv a1, iv 10, iv p1] [.ref a1])
  obtain ⟨T1, X1, e1, st1⟩ := getF X0 hx hZ hown (host := "") (Or.inl (own_w hw 11 rfl)) Via.refl e0 F_values_a1 (g := (mkF m 1 #[rv a1, iv 10, iv p1] [.ref a1])) rfl rfl (hb hby own_d_prog_14_method_3_1)
  refine own_st st1 ?_
  show own_E p e below _ T1 (mkF m 4 #[rv a1, iv 10, iv p1] [.ref a2])
  refine own_st (fun t k => XS.iloadN X1.here hx rfl (hb hby own_d_prog_14_method_3_4) rfl k) ?_
  show own_E p e below _ T1 (mkF m 5 #[rv a1, iv 10, iv p1] [.int 10, .ref a2])
  refine own_st (fun t k => XS.iloadN X1.here hx rfl (hb hby own_d_prog_14_method_3_5) rfl k) ?_
  show own_E p e below _ T1 (mkF m 6 #[rv a1, iv 10, iv p1] [.int p1, .int 10, .ref a2])
  obtain ⟨T2, h2, X2, e2, W2, Vw2, st2⟩ := own_ast X1 hx hZ e1 V_a2 (j := (10 : Int32)) ⟨by decide, by decide⟩ (x := p1) (i := 10) rfl (Nat.le_of_ble_eq_true rfl) (g := (mkF m 6 #[rv a1, iv 10, iv p1] [.int p1, .int 10, .ref a2])) rfl rfl (hb hby own_d_prog_14_method_3_6)
  have V2 : Arv Z h2 a2 kc1 .int (16 : Int32) [(.int ea0), (.int ea1), (.int ea2), (.int ea3), (.int ea4), (.int ea5), (.int ea6), (.int ea7), (.int ea8), (.int ea9), (.int p1), (.int ea11), (.int ea12), (.int ea13), (.int ea14), (.int ea15)] (.int (0 : Int32)) := Vw2
  have N2 := Fr.snoc X2 (Fr.nil n0) g_a2
  have Z3 := Nat.le_trans Z0 (Keep.of_wr W2).1
  have K4 : Keep h0 _ [a2] := (Keep.refl h0 [a2]).wr W2 (Or.inl (List.mem_of_getElem? (i := 0) rfl))
  refine own_st st2 ?_
  show own_E p e below _ T2 (mkF m 7 #[rv a1, iv 10, iv p1] [])
  refine own_retV X2 hx Bd.notSynchronized Bd.returns (hb hby own_d_prog_14_method_3_7) (by decide) (by decide) ?_
  show own_set10_Q Z a1 a2 kc1 p1 ea0 ea1 ea2 ea3 ea4 ea5 ea6 ea7 ea8 ea9 ea10 ea11 ea12 ea13 ea14 ea15 h0 n0 _ T2.heap _
  rw [e2]
  exact ⟨rfl, N2, K4, V2⟩
def own_set11_Q (Z : State) (a1 : Addr) (a2 : Addr) (kc1 : ClassId) (p1 : Int32) (ea0 : Int32) (ea1 : Int32) (ea2 : Int32) (ea3 : Int32) (ea4 : Int32) (ea5 : Int32) (ea6 : Int32) (ea7 : Int32) (ea8 : Int32) (ea9 : Int32) (ea10 : Int32) (ea11 : Int32) (ea12 : Int32) (ea13 : Int32) (ea14 : Int32) (ea15 : Int32) (h0 : Heap) (n0 : Nat) (v : Option Value) (h : Heap) (L : List Loc) : Prop := v = none ∧ Fr n0 L ∧ Keep h0 h [a2] ∧ Arv Z h a2 kc1 .int (16 : Int32) [(.int ea0), (.int ea1), (.int ea2), (.int ea3), (.int ea4), (.int ea5), (.int ea6), (.int ea7), (.int ea8), (.int ea9), (.int ea10), (.int p1), (.int ea12), (.int ea13), (.int ea14), (.int ea15)] (.int (0 : Int32))
theorem own_set11_ef (m : MethodId) (a1 : Addr) (a2 : Addr) (kc1 : ClassId) (p1 : Int32) (ea0 : Int32) (ea1 : Int32) (ea2 : Int32) (ea3 : Int32) (ea4 : Int32) (ea5 : Int32) (ea6 : Int32) (ea7 : Int32) (ea8 : Int32) (ea9 : Int32) (ea10 : Int32) (ea11 : Int32) (ea12 : Int32) (ea13 : Int32) (ea14 : Int32) (ea15 : Int32) : entryFrame m #[(.ref a1), (.int (11 : Int32)), (.int p1)] 3 = mkF m 0 #[.val (.ref a1), .val (.int (11 : Int32)), .val (.int p1)] [] := by first | (simp [entryFrame, mkF, argsToLocals, Value.category]; done) | rfl
set_option maxRecDepth 65536 in
set_option maxHeartbeats 40000000 in
theorem own_set11 (l : Launch) (Z : State) (a0 : Array Value) (hw : ∀ d ∈ tables_1, d.before a0 Z = true) (ws : List Jvm.Cond) (a1 : Addr) (a2 : Addr) (kc1 : ClassId) (p1 : Int32) (ea0 : Int32) (ea1 : Int32) (ea2 : Int32) (ea3 : Int32) (ea4 : Int32) (ea5 : Int32) (ea6 : Int32) (ea7 : Int32) (ea8 : Int32) (ea9 : Int32) (ea10 : Int32) (ea11 : Int32) (ea12 : Int32) (ea13 : Int32) (ea14 : Int32) (ea15 : Int32) (h0 : Heap) (n0 : Nat) (Z0 : n0 ≤ h0.size) (F_values_a1 : Fld Z h0 a1 "com/example/kalchas/kalchas/IntList" "values" "[I" (.ref a2)) (V_a2 : Arv Z h0 a2 kc1 .int (16 : Int32) [(.int ea0), (.int ea1), (.int ea2), (.int ea3), (.int ea4), (.int ea5), (.int ea6), (.int ea7), (.int ea8), (.int ea9), (.int ea10), (.int ea11), (.int ea12), (.int ea13), (.int ea14), (.int ea15)] (.int (0 : Int32))) (ne12 : a1 ≠ a2) (g_a2 : n0 ≤ a2) :
    MetFree l own_y4 (head1 (Jvm.Cond.code own_y4 prog_14_method_3_code 3 none :: ws) ({ frames := 0, cells := 0, slots := 0, locals := 0 } : Room)) (fun a U => a = #[(.ref a1), (.int (11 : Int32)), (.int p1)] ∧ Z.Warmed39 U.vm ∧ U.heap = h0) (fun _ _ _ _ _ => True) (fun _ U o U' => ∃ v L, o = .returned v ∧ own_set11_Q Z a1 a2 kc1 p1 ea0 ea1 ea2 ea3 ea4 ea5 ea6 ea7 ea8 ea9 ea10 ea11 ea12 ea13 ea14 ea15 h0 n0 v U'.heap L ∧ FrameEnd U o U' L ({ frames := 0, cells := 0, slots := 0, locals := 0 } : Room).cells ({ frames := 0, cells := 0, slots := 0, locals := 0 } : Room).slots) := by
  refine MetFree.of_bodySF (plainFor_of_name own_pn_IntList) hisR ?_
  intro p e s m args below meth c s₁ Bd hml0 hP hK
  obtain ⟨rfl, hZ, hh⟩ := hP
  have hx := Bd.exec
  have hby := Bd.bytes
  have hml : c.maxLocals = 3 := hml0
  have hown : s.vm.findClass "com/example/kalchas/kalchas/IntList" = some m.cls := findClass_of_methodNamed Bd.named
  have hnm := (name_of_methodNamed Bd.named Bd.method).1
  have X0 : Stand p l e ({ frames := 0, cells := 0, slots := 0, locals := 0 } : Room) s m #[(.ref a1), (.int (11 : Int32)), (.int p1)] below meth c s₁ [] 0 0 := Stand.of_body Bd
  have e0 : s₁.heap = h0 := by rw [← hh, Bd.state]; rfl
  show own_E p e below (own_K (own_set11_Q Z a1 a2 kc1 p1 ea0 ea1 ea2 ea3 ea4 ea5 ea6 ea7 ea8 ea9 ea10 ea11 ea12 ea13 ea14 ea15 h0 n0) s ({ frames := 0, cells := 0, slots := 0, locals := 0 } : Room).cells ({ frames := 0, cells := 0, slots := 0, locals := 0 } : Room).slots) s₁ (entryFrame m #[(.ref a1), (.int (11 : Int32)), (.int p1)] 3)
  refine own_pre (own_set11_ef m a1 a2 kc1 p1 ea0 ea1 ea2 ea3 ea4 ea5 ea6 ea7 ea8 ea9 ea10 ea11 ea12 ea13 ea14 ea15) ?_
  show own_E p e below _ s₁ (mkF m 0 #[rv a1, iv 11, iv p1] [])
  refine own_st (fun t k => XS.aloadN X0.here hx rfl (hb hby own_d_prog_14_method_3_0) rfl rfl k) ?_
  show own_E p e below _ s₁ (mkF m 1 #[rv a1, iv 11, iv p1] [.ref a1])
  obtain ⟨T1, X1, e1, st1⟩ := getF X0 hx hZ hown (host := "") (Or.inl (own_w hw 11 rfl)) Via.refl e0 F_values_a1 (g := (mkF m 1 #[rv a1, iv 11, iv p1] [.ref a1])) rfl rfl (hb hby own_d_prog_14_method_3_1)
  refine own_st st1 ?_
  show own_E p e below _ T1 (mkF m 4 #[rv a1, iv 11, iv p1] [.ref a2])
  refine own_st (fun t k => XS.iloadN X1.here hx rfl (hb hby own_d_prog_14_method_3_4) rfl k) ?_
  show own_E p e below _ T1 (mkF m 5 #[rv a1, iv 11, iv p1] [.int 11, .ref a2])
  refine own_st (fun t k => XS.iloadN X1.here hx rfl (hb hby own_d_prog_14_method_3_5) rfl k) ?_
  show own_E p e below _ T1 (mkF m 6 #[rv a1, iv 11, iv p1] [.int p1, .int 11, .ref a2])
  obtain ⟨T2, h2, X2, e2, W2, Vw2, st2⟩ := own_ast X1 hx hZ e1 V_a2 (j := (11 : Int32)) ⟨by decide, by decide⟩ (x := p1) (i := 11) rfl (Nat.le_of_ble_eq_true rfl) (g := (mkF m 6 #[rv a1, iv 11, iv p1] [.int p1, .int 11, .ref a2])) rfl rfl (hb hby own_d_prog_14_method_3_6)
  have V2 : Arv Z h2 a2 kc1 .int (16 : Int32) [(.int ea0), (.int ea1), (.int ea2), (.int ea3), (.int ea4), (.int ea5), (.int ea6), (.int ea7), (.int ea8), (.int ea9), (.int ea10), (.int p1), (.int ea12), (.int ea13), (.int ea14), (.int ea15)] (.int (0 : Int32)) := Vw2
  have N2 := Fr.snoc X2 (Fr.nil n0) g_a2
  have Z3 := Nat.le_trans Z0 (Keep.of_wr W2).1
  have K4 : Keep h0 _ [a2] := (Keep.refl h0 [a2]).wr W2 (Or.inl (List.mem_of_getElem? (i := 0) rfl))
  refine own_st st2 ?_
  show own_E p e below _ T2 (mkF m 7 #[rv a1, iv 11, iv p1] [])
  refine own_retV X2 hx Bd.notSynchronized Bd.returns (hb hby own_d_prog_14_method_3_7) (by decide) (by decide) ?_
  show own_set11_Q Z a1 a2 kc1 p1 ea0 ea1 ea2 ea3 ea4 ea5 ea6 ea7 ea8 ea9 ea10 ea11 ea12 ea13 ea14 ea15 h0 n0 _ T2.heap _
  rw [e2]
  exact ⟨rfl, N2, K4, V2⟩
def own_set12_Q (Z : State) (a1 : Addr) (a2 : Addr) (kc1 : ClassId) (p1 : Int32) (ea0 : Int32) (ea1 : Int32) (ea2 : Int32) (ea3 : Int32) (ea4 : Int32) (ea5 : Int32) (ea6 : Int32) (ea7 : Int32) (ea8 : Int32) (ea9 : Int32) (ea10 : Int32) (ea11 : Int32) (ea12 : Int32) (ea13 : Int32) (ea14 : Int32) (ea15 : Int32) (h0 : Heap) (n0 : Nat) (v : Option Value) (h : Heap) (L : List Loc) : Prop := v = none ∧ Fr n0 L ∧ Keep h0 h [a2] ∧ Arv Z h a2 kc1 .int (16 : Int32) [(.int ea0), (.int ea1), (.int ea2), (.int ea3), (.int ea4), (.int ea5), (.int ea6), (.int ea7), (.int ea8), (.int ea9), (.int ea10), (.int ea11), (.int p1), (.int ea13), (.int ea14), (.int ea15)] (.int (0 : Int32))
theorem own_set12_ef (m : MethodId) (a1 : Addr) (a2 : Addr) (kc1 : ClassId) (p1 : Int32) (ea0 : Int32) (ea1 : Int32) (ea2 : Int32) (ea3 : Int32) (ea4 : Int32) (ea5 : Int32) (ea6 : Int32) (ea7 : Int32) (ea8 : Int32) (ea9 : Int32) (ea10 : Int32) (ea11 : Int32) (ea12 : Int32) (ea13 : Int32) (ea14 : Int32) (ea15 : Int32) : entryFrame m #[(.ref a1), (.int (12 : Int32)), (.int p1)] 3 = mkF m 0 #[.val (.ref a1), .val (.int (12 : Int32)), .val (.int p1)] [] := by first | (simp [entryFrame, mkF, argsToLocals, Value.category]; done) | rfl
set_option maxRecDepth 65536 in
set_option maxHeartbeats 40000000 in
theorem own_set12 (l : Launch) (Z : State) (a0 : Array Value) (hw : ∀ d ∈ tables_1, d.before a0 Z = true) (ws : List Jvm.Cond) (a1 : Addr) (a2 : Addr) (kc1 : ClassId) (p1 : Int32) (ea0 : Int32) (ea1 : Int32) (ea2 : Int32) (ea3 : Int32) (ea4 : Int32) (ea5 : Int32) (ea6 : Int32) (ea7 : Int32) (ea8 : Int32) (ea9 : Int32) (ea10 : Int32) (ea11 : Int32) (ea12 : Int32) (ea13 : Int32) (ea14 : Int32) (ea15 : Int32) (h0 : Heap) (n0 : Nat) (Z0 : n0 ≤ h0.size) (F_values_a1 : Fld Z h0 a1 "com/example/kalchas/kalchas/IntList" "values" "[I" (.ref a2)) (V_a2 : Arv Z h0 a2 kc1 .int (16 : Int32) [(.int ea0), (.int ea1), (.int ea2), (.int ea3), (.int ea4), (.int ea5), (.int ea6), (.int ea7), (.int ea8), (.int ea9), (.int ea10), (.int ea11), (.int ea12), (.int ea13), (.int ea14), (.int ea15)] (.int (0 : Int32))) (ne12 : a1 ≠ a2) (g_a2 : n0 ≤ a2) :
    MetFree l own_y4 (head1 (Jvm.Cond.code own_y4 prog_14_method_3_code 3 none :: ws) ({ frames := 0, cells := 0, slots := 0, locals := 0 } : Room)) (fun a U => a = #[(.ref a1), (.int (12 : Int32)), (.int p1)] ∧ Z.Warmed39 U.vm ∧ U.heap = h0) (fun _ _ _ _ _ => True) (fun _ U o U' => ∃ v L, o = .returned v ∧ own_set12_Q Z a1 a2 kc1 p1 ea0 ea1 ea2 ea3 ea4 ea5 ea6 ea7 ea8 ea9 ea10 ea11 ea12 ea13 ea14 ea15 h0 n0 v U'.heap L ∧ FrameEnd U o U' L ({ frames := 0, cells := 0, slots := 0, locals := 0 } : Room).cells ({ frames := 0, cells := 0, slots := 0, locals := 0 } : Room).slots) := by
  refine MetFree.of_bodySF (plainFor_of_name own_pn_IntList) hisR ?_
  intro p e s m args below meth c s₁ Bd hml0 hP hK
  obtain ⟨rfl, hZ, hh⟩ := hP
  have hx := Bd.exec
  have hby := Bd.bytes
  have hml : c.maxLocals = 3 := hml0
  have hown : s.vm.findClass "com/example/kalchas/kalchas/IntList" = some m.cls := findClass_of_methodNamed Bd.named
  have hnm := (name_of_methodNamed Bd.named Bd.method).1
  have X0 : Stand p l e ({ frames := 0, cells := 0, slots := 0, locals := 0 } : Room) s m #[(.ref a1), (.int (12 : Int32)), (.int p1)] below meth c s₁ [] 0 0 := Stand.of_body Bd
  have e0 : s₁.heap = h0 := by rw [← hh, Bd.state]; rfl
  show own_E p e below (own_K (own_set12_Q Z a1 a2 kc1 p1 ea0 ea1 ea2 ea3 ea4 ea5 ea6 ea7 ea8 ea9 ea10 ea11 ea12 ea13 ea14 ea15 h0 n0) s ({ frames := 0, cells := 0, slots := 0, locals := 0 } : Room).cells ({ frames := 0, cells := 0, slots := 0, locals := 0 } : Room).slots) s₁ (entryFrame m #[(.ref a1), (.int (12 : Int32)), (.int p1)] 3)
  refine own_pre (own_set12_ef m a1 a2 kc1 p1 ea0 ea1 ea2 ea3 ea4 ea5 ea6 ea7 ea8 ea9 ea10 ea11 ea12 ea13 ea14 ea15) ?_
  show own_E p e below _ s₁ (mkF m 0 #[rv a1, iv 12, iv p1] [])
  refine own_st (fun t k => XS.aloadN X0.here hx rfl (hb hby own_d_prog_14_method_3_0) rfl rfl k) ?_
  show own_E p e below _ s₁ (mkF m 1 #[rv a1, iv 12, iv p1] [.ref a1])
  obtain ⟨T1, X1, e1, st1⟩ := getF X0 hx hZ hown (host := "") (Or.inl (own_w hw 11 rfl)) Via.refl e0 F_values_a1 (g := (mkF m 1 #[rv a1, iv 12, iv p1] [.ref a1])) rfl rfl (hb hby own_d_prog_14_method_3_1)
  refine own_st st1 ?_
  show own_E p e below _ T1 (mkF m 4 #[rv a1, iv 12, iv p1] [.ref a2])
  refine own_st (fun t k => XS.iloadN X1.here hx rfl (hb hby own_d_prog_14_method_3_4) rfl k) ?_
  show own_E p e below _ T1 (mkF m 5 #[rv a1, iv 12, iv p1] [.int 12, .ref a2])
  refine own_st (fun t k => XS.iloadN X1.here hx rfl (hb hby own_d_prog_14_method_3_5) rfl k) ?_
  show own_E p e below _ T1 (mkF m 6 #[rv a1, iv 12, iv p1] [.int p1, .int 12, .ref a2])
  obtain ⟨T2, h2, X2, e2, W2, Vw2, st2⟩ := own_ast X1 hx hZ e1 V_a2 (j := (12 : Int32)) ⟨by decide, by decide⟩ (x := p1) (i := 12) rfl (Nat.le_of_ble_eq_true rfl) (g := (mkF m 6 #[rv a1, iv 12, iv p1] [.int p1, .int 12, .ref a2])) rfl rfl (hb hby own_d_prog_14_method_3_6)
  have V2 : Arv Z h2 a2 kc1 .int (16 : Int32) [(.int ea0), (.int ea1), (.int ea2), (.int ea3), (.int ea4), (.int ea5), (.int ea6), (.int ea7), (.int ea8), (.int ea9), (.int ea10), (.int ea11), (.int p1), (.int ea13), (.int ea14), (.int ea15)] (.int (0 : Int32)) := Vw2
  have N2 := Fr.snoc X2 (Fr.nil n0) g_a2
  have Z3 := Nat.le_trans Z0 (Keep.of_wr W2).1
  have K4 : Keep h0 _ [a2] := (Keep.refl h0 [a2]).wr W2 (Or.inl (List.mem_of_getElem? (i := 0) rfl))
  refine own_st st2 ?_
  show own_E p e below _ T2 (mkF m 7 #[rv a1, iv 12, iv p1] [])
  refine own_retV X2 hx Bd.notSynchronized Bd.returns (hb hby own_d_prog_14_method_3_7) (by decide) (by decide) ?_
  show own_set12_Q Z a1 a2 kc1 p1 ea0 ea1 ea2 ea3 ea4 ea5 ea6 ea7 ea8 ea9 ea10 ea11 ea12 ea13 ea14 ea15 h0 n0 _ T2.heap _
  rw [e2]
  exact ⟨rfl, N2, K4, V2⟩
def own_set13_Q (Z : State) (a1 : Addr) (a2 : Addr) (kc1 : ClassId) (p1 : Int32) (ea0 : Int32) (ea1 : Int32) (ea2 : Int32) (ea3 : Int32) (ea4 : Int32) (ea5 : Int32) (ea6 : Int32) (ea7 : Int32) (ea8 : Int32) (ea9 : Int32) (ea10 : Int32) (ea11 : Int32) (ea12 : Int32) (ea13 : Int32) (ea14 : Int32) (ea15 : Int32) (h0 : Heap) (n0 : Nat) (v : Option Value) (h : Heap) (L : List Loc) : Prop := v = none ∧ Fr n0 L ∧ Keep h0 h [a2] ∧ Arv Z h a2 kc1 .int (16 : Int32) [(.int ea0), (.int ea1), (.int ea2), (.int ea3), (.int ea4), (.int ea5), (.int ea6), (.int ea7), (.int ea8), (.int ea9), (.int ea10), (.int ea11), (.int ea12), (.int p1), (.int ea14), (.int ea15)] (.int (0 : Int32))
theorem own_set13_ef (m : MethodId) (a1 : Addr) (a2 : Addr) (kc1 : ClassId) (p1 : Int32) (ea0 : Int32) (ea1 : Int32) (ea2 : Int32) (ea3 : Int32) (ea4 : Int32) (ea5 : Int32) (ea6 : Int32) (ea7 : Int32) (ea8 : Int32) (ea9 : Int32) (ea10 : Int32) (ea11 : Int32) (ea12 : Int32) (ea13 : Int32) (ea14 : Int32) (ea15 : Int32) : entryFrame m #[(.ref a1), (.int (13 : Int32)), (.int p1)] 3 = mkF m 0 #[.val (.ref a1), .val (.int (13 : Int32)), .val (.int p1)] [] := by first | (simp [entryFrame, mkF, argsToLocals, Value.category]; done) | rfl
set_option maxRecDepth 65536 in
set_option maxHeartbeats 40000000 in
theorem own_set13 (l : Launch) (Z : State) (a0 : Array Value) (hw : ∀ d ∈ tables_1, d.before a0 Z = true) (ws : List Jvm.Cond) (a1 : Addr) (a2 : Addr) (kc1 : ClassId) (p1 : Int32) (ea0 : Int32) (ea1 : Int32) (ea2 : Int32) (ea3 : Int32) (ea4 : Int32) (ea5 : Int32) (ea6 : Int32) (ea7 : Int32) (ea8 : Int32) (ea9 : Int32) (ea10 : Int32) (ea11 : Int32) (ea12 : Int32) (ea13 : Int32) (ea14 : Int32) (ea15 : Int32) (h0 : Heap) (n0 : Nat) (Z0 : n0 ≤ h0.size) (F_values_a1 : Fld Z h0 a1 "com/example/kalchas/kalchas/IntList" "values" "[I" (.ref a2)) (V_a2 : Arv Z h0 a2 kc1 .int (16 : Int32) [(.int ea0), (.int ea1), (.int ea2), (.int ea3), (.int ea4), (.int ea5), (.int ea6), (.int ea7), (.int ea8), (.int ea9), (.int ea10), (.int ea11), (.int ea12), (.int ea13), (.int ea14), (.int ea15)] (.int (0 : Int32))) (ne12 : a1 ≠ a2) (g_a2 : n0 ≤ a2) :
    MetFree l own_y4 (head1 (Jvm.Cond.code own_y4 prog_14_method_3_code 3 none :: ws) ({ frames := 0, cells := 0, slots := 0, locals := 0 } : Room)) (fun a U => a = #[(.ref a1), (.int (13 : Int32)), (.int p1)] ∧ Z.Warmed39 U.vm ∧ U.heap = h0) (fun _ _ _ _ _ => True) (fun _ U o U' => ∃ v L, o = .returned v ∧ own_set13_Q Z a1 a2 kc1 p1 ea0 ea1 ea2 ea3 ea4 ea5 ea6 ea7 ea8 ea9 ea10 ea11 ea12 ea13 ea14 ea15 h0 n0 v U'.heap L ∧ FrameEnd U o U' L ({ frames := 0, cells := 0, slots := 0, locals := 0 } : Room).cells ({ frames := 0, cells := 0, slots := 0, locals := 0 } : Room).slots) := by
  refine MetFree.of_bodySF (plainFor_of_name own_pn_IntList) hisR ?_
  intro p e s m args below meth c s₁ Bd hml0 hP hK
  obtain ⟨rfl, hZ, hh⟩ := hP
  have hx := Bd.exec
  have hby := Bd.bytes
  have hml : c.maxLocals = 3 := hml0
  have hown : s.vm.findClass "com/example/kalchas/kalchas/IntList" = some m.cls := findClass_of_methodNamed Bd.named
  have hnm := (name_of_methodNamed Bd.named Bd.method).1
  have X0 : Stand p l e ({ frames := 0, cells := 0, slots := 0, locals := 0 } : Room) s m #[(.ref a1), (.int (13 : Int32)), (.int p1)] below meth c s₁ [] 0 0 := Stand.of_body Bd
  have e0 : s₁.heap = h0 := by rw [← hh, Bd.state]; rfl
  show own_E p e below (own_K (own_set13_Q Z a1 a2 kc1 p1 ea0 ea1 ea2 ea3 ea4 ea5 ea6 ea7 ea8 ea9 ea10 ea11 ea12 ea13 ea14 ea15 h0 n0) s ({ frames := 0, cells := 0, slots := 0, locals := 0 } : Room).cells ({ frames := 0, cells := 0, slots := 0, locals := 0 } : Room).slots) s₁ (entryFrame m #[(.ref a1), (.int (13 : Int32)), (.int p1)] 3)
  refine own_pre (own_set13_ef m a1 a2 kc1 p1 ea0 ea1 ea2 ea3 ea4 ea5 ea6 ea7 ea8 ea9 ea10 ea11 ea12 ea13 ea14 ea15) ?_
  show own_E p e below _ s₁ (mkF m 0 #[rv a1, iv 13, iv p1] [])
  refine own_st (fun t k => XS.aloadN X0.here hx rfl (hb hby own_d_prog_14_method_3_0) rfl rfl k) ?_
  show own_E p e below _ s₁ (mkF m 1 #[rv a1, iv 13, iv p1] [.ref a1])
  obtain ⟨T1, X1, e1, st1⟩ := getF X0 hx hZ hown (host := "") (Or.inl (own_w hw 11 rfl)) Via.refl e0 F_values_a1 (g := (mkF m 1 #[rv a1, iv 13, iv p1] [.ref a1])) rfl rfl (hb hby own_d_prog_14_method_3_1)
  refine own_st st1 ?_
  show own_E p e below _ T1 (mkF m 4 #[rv a1, iv 13, iv p1] [.ref a2])
  refine own_st (fun t k => XS.iloadN X1.here hx rfl (hb hby own_d_prog_14_method_3_4) rfl k) ?_
  show own_E p e below _ T1 (mkF m 5 #[rv a1, iv 13, iv p1] [.int 13, .ref a2])
  refine own_st (fun t k => XS.iloadN X1.here hx rfl (hb hby own_d_prog_14_method_3_5) rfl k) ?_
  show own_E p e below _ T1 (mkF m 6 #[rv a1, iv 13, iv p1] [.int p1, .int 13, .ref a2])
  obtain ⟨T2, h2, X2, e2, W2, Vw2, st2⟩ := own_ast X1 hx hZ e1 V_a2 (j := (13 : Int32)) ⟨by decide, by decide⟩ (x := p1) (i := 13) rfl (Nat.le_of_ble_eq_true rfl) (g := (mkF m 6 #[rv a1, iv 13, iv p1] [.int p1, .int 13, .ref a2])) rfl rfl (hb hby own_d_prog_14_method_3_6)
  have V2 : Arv Z h2 a2 kc1 .int (16 : Int32) [(.int ea0), (.int ea1), (.int ea2), (.int ea3), (.int ea4), (.int ea5), (.int ea6), (.int ea7), (.int ea8), (.int ea9), (.int ea10), (.int ea11), (.int ea12), (.int p1), (.int ea14), (.int ea15)] (.int (0 : Int32)) := Vw2
  have N2 := Fr.snoc X2 (Fr.nil n0) g_a2
  have Z3 := Nat.le_trans Z0 (Keep.of_wr W2).1
  have K4 : Keep h0 _ [a2] := (Keep.refl h0 [a2]).wr W2 (Or.inl (List.mem_of_getElem? (i := 0) rfl))
  refine own_st st2 ?_
  show own_E p e below _ T2 (mkF m 7 #[rv a1, iv 13, iv p1] [])
  refine own_retV X2 hx Bd.notSynchronized Bd.returns (hb hby own_d_prog_14_method_3_7) (by decide) (by decide) ?_
  show own_set13_Q Z a1 a2 kc1 p1 ea0 ea1 ea2 ea3 ea4 ea5 ea6 ea7 ea8 ea9 ea10 ea11 ea12 ea13 ea14 ea15 h0 n0 _ T2.heap _
  rw [e2]
  exact ⟨rfl, N2, K4, V2⟩
def own_set14_Q (Z : State) (a1 : Addr) (a2 : Addr) (kc1 : ClassId) (p1 : Int32) (ea0 : Int32) (ea1 : Int32) (ea2 : Int32) (ea3 : Int32) (ea4 : Int32) (ea5 : Int32) (ea6 : Int32) (ea7 : Int32) (ea8 : Int32) (ea9 : Int32) (ea10 : Int32) (ea11 : Int32) (ea12 : Int32) (ea13 : Int32) (ea14 : Int32) (ea15 : Int32) (h0 : Heap) (n0 : Nat) (v : Option Value) (h : Heap) (L : List Loc) : Prop := v = none ∧ Fr n0 L ∧ Keep h0 h [a2] ∧ Arv Z h a2 kc1 .int (16 : Int32) [(.int ea0), (.int ea1), (.int ea2), (.int ea3), (.int ea4), (.int ea5), (.int ea6), (.int ea7), (.int ea8), (.int ea9), (.int ea10), (.int ea11), (.int ea12), (.int ea13), (.int p1), (.int ea15)] (.int (0 : Int32))
theorem own_set14_ef (m : MethodId) (a1 : Addr) (a2 : Addr) (kc1 : ClassId) (p1 : Int32) (ea0 : Int32) (ea1 : Int32) (ea2 : Int32) (ea3 : Int32) (ea4 : Int32) (ea5 : Int32) (ea6 : Int32) (ea7 : Int32) (ea8 : Int32) (ea9 : Int32) (ea10 : Int32) (ea11 : Int32) (ea12 : Int32) (ea13 : Int32) (ea14 : Int32) (ea15 : Int32) : entryFrame m #[(.ref a1), (.int (14 : Int32)), (.int p1)] 3 = mkF m 0 #[.val (.ref a1), .val (.int (14 : Int32)), .val (.int p1)] [] := by first | (simp [entryFrame, mkF, argsToLocals, Value.category]; done) | rfl
set_option maxRecDepth 65536 in
set_option maxHeartbeats 40000000 in
theorem own_set14 (l : Launch) (Z : State) (a0 : Array Value) (hw : ∀ d ∈ tables_1, d.before a0 Z = true) (ws : List Jvm.Cond) (a1 : Addr) (a2 : Addr) (kc1 : ClassId) (p1 : Int32) (ea0 : Int32) (ea1 : Int32) (ea2 : Int32) (ea3 : Int32) (ea4 : Int32) (ea5 : Int32) (ea6 : Int32) (ea7 : Int32) (ea8 : Int32) (ea9 : Int32) (ea10 : Int32) (ea11 : Int32) (ea12 : Int32) (ea13 : Int32) (ea14 : Int32) (ea15 : Int32) (h0 : Heap) (n0 : Nat) (Z0 : n0 ≤ h0.size) (F_values_a1 : Fld Z h0 a1 "com/example/kalchas/kalchas/IntList" "values" "[I" (.ref a2)) (V_a2 : Arv Z h0 a2 kc1 .int (16 : Int32) [(.int ea0), (.int ea1), (.int ea2), (.int ea3), (.int ea4), (.int ea5), (.int ea6), (.int ea7), (.int ea8), (.int ea9), (.int ea10), (.int ea11), (.int ea12), (.int ea13), (.int ea14), (.int ea15)] (.int (0 : Int32))) (ne12 : a1 ≠ a2) (g_a2 : n0 ≤ a2) :
    MetFree l own_y4 (head1 (Jvm.Cond.code own_y4 prog_14_method_3_code 3 none :: ws) ({ frames := 0, cells := 0, slots := 0, locals := 0 } : Room)) (fun a U => a = #[(.ref a1), (.int (14 : Int32)), (.int p1)] ∧ Z.Warmed39 U.vm ∧ U.heap = h0) (fun _ _ _ _ _ => True) (fun _ U o U' => ∃ v L, o = .returned v ∧ own_set14_Q Z a1 a2 kc1 p1 ea0 ea1 ea2 ea3 ea4 ea5 ea6 ea7 ea8 ea9 ea10 ea11 ea12 ea13 ea14 ea15 h0 n0 v U'.heap L ∧ FrameEnd U o U' L ({ frames := 0, cells := 0, slots := 0, locals := 0 } : Room).cells ({ frames := 0, cells := 0, slots := 0, locals := 0 } : Room).slots) := by
  refine MetFree.of_bodySF (plainFor_of_name own_pn_IntList) hisR ?_
  intro p e s m args below meth c s₁ Bd hml0 hP hK
  obtain ⟨rfl, hZ, hh⟩ := hP
  have hx := Bd.exec
  have hby := Bd.bytes
  have hml : c.maxLocals = 3 := hml0
  have hown : s.vm.findClass "com/example/kalchas/kalchas/IntList" = some m.cls := findClass_of_methodNamed Bd.named
  have hnm := (name_of_methodNamed Bd.named Bd.method).1
  have X0 : Stand p l e ({ frames := 0, cells := 0, slots := 0, locals := 0 } : Room) s m #[(.ref a1), (.int (14 : Int32)), (.int p1)] below meth c s₁ [] 0 0 := Stand.of_body Bd
  have e0 : s₁.heap = h0 := by rw [← hh, Bd.state]; rfl
  show own_E p e below (own_K (own_set14_Q Z a1 a2 kc1 p1 ea0 ea1 ea2 ea3 ea4 ea5 ea6 ea7 ea8 ea9 ea10 ea11 ea12 ea13 ea14 ea15 h0 n0) s ({ frames := 0, cells := 0, slots := 0, locals := 0 } : Room).cells ({ frames := 0, cells := 0, slots := 0, locals := 0 } : Room).slots) s₁ (entryFrame m #[(.ref a1), (.int (14 : Int32)), (.int p1)] 3)
  refine own_pre (own_set14_ef m a1 a2 kc1 p1 ea0 ea1 ea2 ea3 ea4 ea5 ea6 ea7 ea8 ea9 ea10 ea11 ea12 ea13 ea14 ea15) ?_
  show own_E p e below _ s₁ (mkF m 0 #[rv a1, iv 14, iv p1] [])
  refine own_st (fun t k => XS.aloadN X0.here hx rfl (hb hby own_d_prog_14_method_3_0) rfl rfl k) ?_
  show own_E p e below _ s₁ (mkF m 1 #[rv a1, iv 14, iv p1] [.ref a1])
  obtain ⟨T1, X1, e1, st1⟩ := getF X0 hx hZ hown (host := "") (Or.inl (own_w hw 11 rfl)) Via.refl e0 F_values_a1 (g := (mkF m 1 #[rv a1, iv 14, iv p1] [.ref a1])) rfl rfl (hb hby own_d_prog_14_method_3_1)
  refine own_st st1 ?_
  show own_E p e below _ T1 (mkF m 4 #[rv a1, iv 14, iv p1] [.ref a2])
  refine own_st (fun t k => XS.iloadN X1.here hx rfl (hb hby own_d_prog_14_method_3_4) rfl k) ?_
  show own_E p e below _ T1 (mkF m 5 #[rv a1, iv 14, iv p1] [.int 14, .ref a2])
  refine own_st (fun t k => XS.iloadN X1.here hx rfl (hb hby own_d_prog_14_method_3_5) rfl k) ?_
  show own_E p e below _ T1 (mkF m 6 #[rv a1, iv 14, iv p1] [.int p1, .int 14, .ref a2])
  obtain ⟨T2, h2, X2, e2, W2, Vw2, st2⟩ := own_ast X1 hx hZ e1 V_a2 (j := (14 : Int32)) ⟨by decide, by decide⟩ (x := p1) (i := 14) rfl (Nat.le_of_ble_eq_true rfl) (g := (mkF m 6 #[rv a1, iv 14, iv p1] [.int p1, .int 14, .ref a2])) rfl rfl (hb hby own_d_prog_14_method_3_6)
  have V2 : Arv Z h2 a2 kc1 .int (16 : Int32) [(.int ea0), (.int ea1), (.int ea2), (.int ea3), (.int ea4), (.int ea5), (.int ea6), (.int ea7), (.int ea8), (.int ea9), (.int ea10), (.int ea11), (.int ea12), (.int ea13), (.int p1), (.int ea15)] (.int (0 : Int32)) := Vw2
  have N2 := Fr.snoc X2 (Fr.nil n0) g_a2
  have Z3 := Nat.le_trans Z0 (Keep.of_wr W2).1
  have K4 : Keep h0 _ [a2] := (Keep.refl h0 [a2]).wr W2 (Or.inl (List.mem_of_getElem? (i := 0) rfl))
  refine own_st st2 ?_
  show own_E p e below _ T2 (mkF m 7 #[rv a1, iv 14, iv p1] [])
  refine own_retV X2 hx Bd.notSynchronized Bd.returns (hb hby own_d_prog_14_method_3_7) (by decide) (by decide) ?_
  show own_set14_Q Z a1 a2 kc1 p1 ea0 ea1 ea2 ea3 ea4 ea5 ea6 ea7 ea8 ea9 ea10 ea11 ea12 ea13 ea14 ea15 h0 n0 _ T2.heap _
  rw [e2]
  exact ⟨rfl, N2, K4, V2⟩
def own_set15_Q (Z : State) (a1 : Addr) (a2 : Addr) (kc1 : ClassId) (p1 : Int32) (ea0 : Int32) (ea1 : Int32) (ea2 : Int32) (ea3 : Int32) (ea4 : Int32) (ea5 : Int32) (ea6 : Int32) (ea7 : Int32) (ea8 : Int32) (ea9 : Int32) (ea10 : Int32) (ea11 : Int32) (ea12 : Int32) (ea13 : Int32) (ea14 : Int32) (ea15 : Int32) (h0 : Heap) (n0 : Nat) (v : Option Value) (h : Heap) (L : List Loc) : Prop := v = none ∧ Fr n0 L ∧ Keep h0 h [a2] ∧ Arv Z h a2 kc1 .int (16 : Int32) [(.int ea0), (.int ea1), (.int ea2), (.int ea3), (.int ea4), (.int ea5), (.int ea6), (.int ea7), (.int ea8), (.int ea9), (.int ea10), (.int ea11), (.int ea12), (.int ea13), (.int ea14), (.int p1)] (.int (0 : Int32))
theorem own_set15_ef (m : MethodId) (a1 : Addr) (a2 : Addr) (kc1 : ClassId) (p1 : Int32) (ea0 : Int32) (ea1 : Int32) (ea2 : Int32) (ea3 : Int32) (ea4 : Int32) (ea5 : Int32) (ea6 : Int32) (ea7 : Int32) (ea8 : Int32) (ea9 : Int32) (ea10 : Int32) (ea11 : Int32) (ea12 : Int32) (ea13 : Int32) (ea14 : Int32) (ea15 : Int32) : entryFrame m #[(.ref a1), (.int (15 : Int32)), (.int p1)] 3 = mkF m 0 #[.val (.ref a1), .val (.int (15 : Int32)), .val (.int p1)] [] := by first | (simp [entryFrame, mkF, argsToLocals, Value.category]; done) | rfl
set_option maxRecDepth 65536 in
set_option maxHeartbeats 40000000 in
theorem own_set15 (l : Launch) (Z : State) (a0 : Array Value) (hw : ∀ d ∈ tables_1, d.before a0 Z = true) (ws : List Jvm.Cond) (a1 : Addr) (a2 : Addr) (kc1 : ClassId) (p1 : Int32) (ea0 : Int32) (ea1 : Int32) (ea2 : Int32) (ea3 : Int32) (ea4 : Int32) (ea5 : Int32) (ea6 : Int32) (ea7 : Int32) (ea8 : Int32) (ea9 : Int32) (ea10 : Int32) (ea11 : Int32) (ea12 : Int32) (ea13 : Int32) (ea14 : Int32) (ea15 : Int32) (h0 : Heap) (n0 : Nat) (Z0 : n0 ≤ h0.size) (F_values_a1 : Fld Z h0 a1 "com/example/kalchas/kalchas/IntList" "values" "[I" (.ref a2)) (V_a2 : Arv Z h0 a2 kc1 .int (16 : Int32) [(.int ea0), (.int ea1), (.int ea2), (.int ea3), (.int ea4), (.int ea5), (.int ea6), (.int ea7), (.int ea8), (.int ea9), (.int ea10), (.int ea11), (.int ea12), (.int ea13), (.int ea14), (.int ea15)] (.int (0 : Int32))) (ne12 : a1 ≠ a2) (g_a2 : n0 ≤ a2) :
    MetFree l own_y4 (head1 (Jvm.Cond.code own_y4 prog_14_method_3_code 3 none :: ws) ({ frames := 0, cells := 0, slots := 0, locals := 0 } : Room)) (fun a U => a = #[(.ref a1), (.int (15 : Int32)), (.int p1)] ∧ Z.Warmed39 U.vm ∧ U.heap = h0) (fun _ _ _ _ _ => True) (fun _ U o U' => ∃ v L, o = .returned v ∧ own_set15_Q Z a1 a2 kc1 p1 ea0 ea1 ea2 ea3 ea4 ea5 ea6 ea7 ea8 ea9 ea10 ea11 ea12 ea13 ea14 ea15 h0 n0 v U'.heap L ∧ FrameEnd U o U' L ({ frames := 0, cells := 0, slots := 0, locals := 0 } : Room).cells ({ frames := 0, cells := 0, slots := 0, locals := 0 } : Room).slots) := by
  refine MetFree.of_bodySF (plainFor_of_name own_pn_IntList) hisR ?_
  intro p e s m args below meth c s₁ Bd hml0 hP hK
  obtain ⟨rfl, hZ, hh⟩ := hP
  have hx := Bd.exec
  have hby := Bd.bytes
  have hml : c.maxLocals = 3 := hml0
  have hown : s.vm.findClass "com/example/kalchas/kalchas/IntList" = some m.cls := findClass_of_methodNamed Bd.named
  have hnm := (name_of_methodNamed Bd.named Bd.method).1
  have X0 : Stand p l e ({ frames := 0, cells := 0, slots := 0, locals := 0 } : Room) s m #[(.ref a1), (.int (15 : Int32)), (.int p1)] below meth c s₁ [] 0 0 := Stand.of_body Bd
  have e0 : s₁.heap = h0 := by rw [← hh, Bd.state]; rfl
  show own_E p e below (own_K (own_set15_Q Z a1 a2 kc1 p1 ea0 ea1 ea2 ea3 ea4 ea5 ea6 ea7 ea8 ea9 ea10 ea11 ea12 ea13 ea14 ea15 h0 n0) s ({ frames := 0, cells := 0, slots := 0, locals := 0 } : Room).cells ({ frames := 0, cells := 0, slots := 0, locals := 0 } : Room).slots) s₁ (entryFrame m #[(.ref a1), (.int (15 : Int32)), (.int p1)] 3)
  refine own_pre (own_set15_ef m a1 a2 kc1 p1 ea0 ea1 ea2 ea3 ea4 ea5 ea6 ea7 ea8 ea9 ea10 ea11 ea12 ea13 ea14 ea15) ?_
  show own_E p e below _ s₁ (mkF m 0 #[rv a1, iv 15, iv p1] [])
  refine own_st (fun t k => XS.aloadN X0.here hx rfl (hb hby own_d_prog_14_method_3_0) rfl rfl k) ?_
  show own_E p e below _ s₁ (mkF m 1 #[rv a1, iv 15, iv p1] [.ref a1])
  obtain ⟨T1, X1, e1, st1⟩ := getF X0 hx hZ hown (host := "") (Or.inl (own_w hw 11 rfl)) Via.refl e0 F_values_a1 (g := (mkF m 1 #[rv a1, iv 15, iv p1] [.ref a1])) rfl rfl (hb hby own_d_prog_14_method_3_1)
  refine own_st st1 ?_
  show own_E p e below _ T1 (mkF m 4 #[rv a1, iv 15, iv p1] [.ref a2])
  refine own_st (fun t k => XS.iloadN X1.here hx rfl (hb hby own_d_prog_14_method_3_4) rfl k) ?_
  show own_E p e below _ T1 (mkF m 5 #[rv a1, iv 15, iv p1] [.int 15, .ref a2])
  refine own_st (fun t k => XS.iloadN X1.here hx rfl (hb hby own_d_prog_14_method_3_5) rfl k) ?_
  show own_E p e below _ T1 (mkF m 6 #[rv a1, iv 15, iv p1] [.int p1, .int 15, .ref a2])
  obtain ⟨T2, h2, X2, e2, W2, Vw2, st2⟩ := own_ast X1 hx hZ e1 V_a2 (j := (15 : Int32)) ⟨by decide, by decide⟩ (x := p1) (i := 15) rfl (Nat.le_of_ble_eq_true rfl) (g := (mkF m 6 #[rv a1, iv 15, iv p1] [.int p1, .int 15, .ref a2])) rfl rfl (hb hby own_d_prog_14_method_3_6)
  have V2 : Arv Z h2 a2 kc1 .int (16 : Int32) [(.int ea0), (.int ea1), (.int ea2), (.int ea3), (.int ea4), (.int ea5), (.int ea6), (.int ea7), (.int ea8), (.int ea9), (.int ea10), (.int ea11), (.int ea12), (.int ea13), (.int ea14), (.int p1)] (.int (0 : Int32)) := Vw2
  have N2 := Fr.snoc X2 (Fr.nil n0) g_a2
  have Z3 := Nat.le_trans Z0 (Keep.of_wr W2).1
  have K4 : Keep h0 _ [a2] := (Keep.refl h0 [a2]).wr W2 (Or.inl (List.mem_of_getElem? (i := 0) rfl))
  refine own_st st2 ?_
  show own_E p e below _ T2 (mkF m 7 #[rv a1, iv 15, iv p1] [])
  refine own_retV X2 hx Bd.notSynchronized Bd.returns (hb hby own_d_prog_14_method_3_7) (by decide) (by decide) ?_
  show own_set15_Q Z a1 a2 kc1 p1 ea0 ea1 ea2 ea3 ea4 ea5 ea6 ea7 ea8 ea9 ea10 ea11 ea12 ea13 ea14 ea15 h0 n0 _ T2.heap _
  rw [e2]
  exact ⟨rfl, N2, K4, V2⟩
theorem own_d_prog_14_method_2_0 : decode prog_14_method_2_code 0 = .ok (.aload_n 0, 1) := by decide +kernel
theorem own_d_prog_14_method_2_1 : decode prog_14_method_2_code 1 = .ok (.getfield 13, 3) := by decide +kernel
theorem own_d_prog_14_method_2_4 : decode prog_14_method_2_code 4 = .ok (.aload_n 0, 1) := by decide +kernel
theorem own_d_prog_14_method_2_5 : decode prog_14_method_2_code 5 = .ok (.getfield 7, 3) := by decide +kernel
theorem own_d_prog_14_method_2_8 : decode prog_14_method_2_code 8 = .ok (.arraylength, 1) := by decide +kernel
theorem own_d_prog_14_method_2_9 : decode prog_14_method_2_code 9 = .ok (.if_icmp .ne 20, 3) := by decide +kernel
theorem own_d_prog_14_method_2_29 : decode prog_14_method_2_code 29 = .ok (.aload_n 0, 1) := by decide +kernel
theorem own_d_prog_14_method_2_30 : decode prog_14_method_2_code 30 = .ok (.getfield 7, 3) := by decide +kernel
theorem own_d_prog_14_method_2_33 : decode prog_14_method_2_code 33 = .ok (.aload_n 0, 1) := by decide +kernel
theorem own_d_prog_14_method_2_34 : decode prog_14_method_2_code 34 = .ok (.dup, 1) := by decide +kernel
theorem own_d_prog_14_method_2_35 : decode prog_14_method_2_code 35 = .ok (.getfield 13, 3) := by decide +kernel
theorem own_d_prog_14_method_2_38 : decode prog_14_method_2_code 38 = .ok (.dup_x1, 1) := by decide +kernel
theorem own_d_prog_14_method_2_39 : decode prog_14_method_2_code 39 = .ok (.iconst 1, 1) := by decide +kernel
theorem own_d_prog_14_method_2_40 : decode prog_14_method_2_code 40 = .ok (.iadd, 1) := by decide +kernel
theorem own_d_prog_14_method_2_41 : decode prog_14_method_2_code 41 = .ok (.putfield 13, 3) := by decide +kernel
theorem own_d_prog_14_method_2_44 : decode prog_14_method_2_code 44 = .ok (.iload_n 1, 1) := by decide +kernel
theorem own_d_prog_14_method_2_45 : decode prog_14_method_2_code 45 = .ok (.iastore, 1) := by decide +kernel
theorem own_d_prog_14_method_2_46 : decode prog_14_method_2_code 46 = .ok (.return_, 1) := by decide +kernel
def own_add0_Q (Z : State) (a1 : Addr) (a2 : Addr) (kc1 : ClassId) (p1 : Int32) (ea0 : Int32) (ea1 : Int32) (ea2 : Int32) (ea3 : Int32) (ea4 : Int32) (ea5 : Int32) (ea6 : Int32) (ea7 : Int32) (ea8 : Int32) (ea9 : Int32) (ea10 : Int32) (ea11 : Int32) (ea12 : Int32) (ea13 : Int32) (ea14 : Int32) (ea15 : Int32) (h0 : Heap) (n0 : Nat) (v : Option Value) (h : Heap) (L : List Loc) : Prop := v = none ∧ Fr n0 L ∧ Keep h0 h [a1, a2] ∧ Exa Z h a1 "com/example/kalchas/kalchas/IntList" ∧ Fld Z h a1 "com/example/kalchas/kalchas/IntList" "values" "[I" (.ref a2) ∧ Fld Z h a1 "com/example/kalchas/kalchas/IntList" "size" "I" (.int (1 : Int32)) ∧ Arv Z h a2 kc1 .int (16 : Int32) [(.int p1), (.int ea1), (.int ea2), (.int ea3), (.int ea4), (.int ea5), (.int ea6), (.int ea7), (.int ea8), (.int ea9), (.int ea10), (.int ea11), (.int ea12), (.int ea13), (.int ea14), (.int ea15)] (.int (0 : Int32))
abbrev own_y5 : MethodName := ⟨"com/example/kalchas/kalchas/IntList", "add", "(I)V"⟩
theorem own_add0_ef (m : MethodId) (a1 : Addr) (a2 : Addr) (kc1 : ClassId) (p1 : Int32) (ea0 : Int32) (ea1 : Int32) (ea2 : Int32) (ea3 : Int32) (ea4 : Int32) (ea5 : Int32) (ea6 : Int32) (ea7 : Int32) (ea8 : Int32) (ea9 : Int32) (ea10 : Int32) (ea11 : Int32) (ea12 : Int32) (ea13 : Int32) (ea14 : Int32) (ea15 : Int32) : entryFrame m #[(.ref a1), (.int p1)] 2 = mkF m 0 #[.val (.ref a1), .val (.int p1)] [] := by first | (simp [entryFrame, mkF, argsToLocals, Value.category]; done) | rfl
set_option maxRecDepth 65536 in
set_option maxHeartbeats 40000000 in
theorem own_add0 (l : Launch) (Z : State) (a0 : Array Value) (hw : ∀ d ∈ tables_1, d.before a0 Z = true) (ws : List Jvm.Cond) (a1 : Addr) (a2 : Addr) (kc1 : ClassId) (p1 : Int32) (ea0 : Int32) (ea1 : Int32) (ea2 : Int32) (ea3 : Int32) (ea4 : Int32) (ea5 : Int32) (ea6 : Int32) (ea7 : Int32) (ea8 : Int32) (ea9 : Int32) (ea10 : Int32) (ea11 : Int32) (ea12 : Int32) (ea13 : Int32) (ea14 : Int32) (ea15 : Int32) (h0 : Heap) (n0 : Nat) (Z0 : n0 ≤ h0.size) (E_a1 : Exa Z h0 a1 "com/example/kalchas/kalchas/IntList") (F_values_a1 : Fld Z h0 a1 "com/example/kalchas/kalchas/IntList" "values" "[I" (.ref a2)) (F_size_a1 : Fld Z h0 a1 "com/example/kalchas/kalchas/IntList" "size" "I" (.int (0 : Int32))) (V_a2 : Arv Z h0 a2 kc1 .int (16 : Int32) [(.int ea0), (.int ea1), (.int ea2), (.int ea3), (.int ea4), (.int ea5), (.int ea6), (.int ea7), (.int ea8), (.int ea9), (.int ea10), (.int ea11), (.int ea12), (.int ea13), (.int ea14), (.int ea15)] (.int (0 : Int32))) (ne12 : a1 ≠ a2) (g_a1 : n0 ≤ a1) (g_a2 : n0 ≤ a2) :
    MetFree l own_y5 (head1 (Jvm.Cond.code own_y5 prog_14_method_2_code 2 none :: ws) ({ frames := 0, cells := 0, slots := 0, locals := 0 } : Room)) (fun a U => a = #[(.ref a1), (.int p1)] ∧ Z.Warmed39 U.vm ∧ U.heap = h0) (fun _ _ _ _ _ => True) (fun _ U o U' => ∃ v L, o = .returned v ∧ own_add0_Q Z a1 a2 kc1 p1 ea0 ea1 ea2 ea3 ea4 ea5 ea6 ea7 ea8 ea9 ea10 ea11 ea12 ea13 ea14 ea15 h0 n0 v U'.heap L ∧ FrameEnd U o U' L ({ frames := 0, cells := 0, slots := 0, locals := 0 } : Room).cells ({ frames := 0, cells := 0, slots := 0, locals := 0 } : Room).slots) := by
  refine MetFree.of_bodySF (plainFor_of_name own_pn_IntList) hisR ?_
  intro p e s m args below meth c s₁ Bd hml0 hP hK
  obtain ⟨rfl, hZ, hh⟩ := hP
  have hx := Bd.exec
  have hby := Bd.bytes
  have hml : c.maxLocals = 2 := hml0
  have hown : s.vm.findClass "com/example/kalchas/kalchas/IntList" = some m.cls := findClass_of_methodNamed Bd.named
  have hnm := (name_of_methodNamed Bd.named Bd.method).1
  have X0 : Stand p l e ({ frames := 0, cells := 0, slots := 0, locals := 0 } : Room) s m #[(.ref a1), (.int p1)] below meth c s₁ [] 0 0 := Stand.of_body Bd
  have e0 : s₁.heap = h0 := by rw [← hh, Bd.state]; rfl
  show own_E p e below (own_K (own_add0_Q Z a1 a2 kc1 p1 ea0 ea1 ea2 ea3 ea4 ea5 ea6 ea7 ea8 ea9 ea10 ea11 ea12 ea13 ea14 ea15 h0 n0) s ({ frames := 0, cells := 0, slots := 0, locals := 0 } : Room).cells ({ frames := 0, cells := 0, slots := 0, locals := 0 } : Room).slots) s₁ (entryFrame m #[(.ref a1), (.int p1)] 2)
  refine own_pre (own_add0_ef m a1 a2 kc1 p1 ea0 ea1 ea2 ea3 ea4 ea5 ea6 ea7 ea8 ea9 ea10 ea11 ea12 ea13 ea14 ea15) ?_
  show own_E p e below _ s₁ (mkF m 0 #[rv a1, iv p1] [])
  refine own_st (fun t k => XS.aloadN X0.here hx rfl (hb hby own_d_prog_14_method_2_0) rfl rfl k) ?_
  show own_E p e below _ s₁ (mkF m 1 #[rv a1, iv p1] [.ref a1])
  obtain ⟨T1, X1, e1, st1⟩ := getF X0 hx hZ hown (host := "") (Or.inl (own_w hw 18 rfl)) Via.refl e0 F_size_a1 (g := (mkF m 1 #[rv a1, iv p1] [.ref a1])) rfl rfl (hb hby own_d_prog_14_method_2_1)
  refine own_st st1 ?_
  show own_E p e below _ T1 (mkF m 4 #[rv a1, iv p1] [.int 0])
  refine own_st (fun t k => XS.aloadN X1.here hx rfl (hb hby own_d_prog_14_method_2_4) rfl rfl k) ?_
  show own_E p e below _ T1 (mkF m 5 #[rv a1, iv p1] [.ref a1, .int 0])
  obtain ⟨T2, X2, e2, st2⟩ := getF X1 hx hZ hown (host := "") (Or.inl (own_w hw 11 rfl)) Via.refl e1 F_values_a1 (g := (mkF m 5 #[rv a1, iv p1] [.ref a1, .int 0])) rfl rfl (hb hby own_d_prog_14_method_2_5)
  refine own_st st2 ?_
  show own_E p e below _ T2 (mkF m 8 #[rv a1, iv p1] [.ref a2, .int 0])
  refine own_st (own_alen X2 hx hZ e2 V_a2 (g := (mkF m 8 #[rv a1, iv p1] [.ref a2, .int 0])) rfl rfl (hb hby own_d_prog_14_method_2_8)) ?_
  show own_E p e below _ T2 (mkF m 9 #[rv a1, iv p1] [.int 16, .int 0])
  refine own_st (fun t k => XS.icmpYes X2.here hx rfl (pc0 := 9) (pc' := 29) rfl (hb hby own_d_prog_14_method_2_9) rfl (by decide) (by decide) (by decide) k) ?_
  show own_E p e below _ T2 (mkF m 29 #[rv a1, iv p1] [])
  refine own_st (fun t k => XS.aloadN X2.here hx rfl (hb hby own_d_prog_14_method_2_29) rfl rfl k) ?_
  show own_E p e below _ T2 (mkF m 30 #[rv a1, iv p1] [.ref a1])
  obtain ⟨T3, X3, e3, st3⟩ := getF X2 hx hZ hown (host := "") (Or.inl (own_w hw 11 rfl)) Via.refl e2 F_values_a1 (g := (mkF m 30 #[rv a1, iv p1] [.ref a1])) rfl rfl (hb hby own_d_prog_14_method_2_30)
  refine own_st st3 ?_
  show own_E p e below _ T3 (mkF m 33 #[rv a1, iv p1] [.ref a2])
  refine own_st (fun t k => XS.aloadN X3.here hx rfl (hb hby own_d_prog_14_method_2_33) rfl rfl k) ?_
  show own_E p e below _ T3 (mkF m 34 #[rv a1, iv p1] [.ref a1, .ref a2])
  refine own_st (fun t k => XS.dup X3.here hx rfl (hb hby own_d_prog_14_method_2_34) rfl rfl k) ?_
  show own_E p e below _ T3 (mkF m 35 #[rv a1, iv p1] [.ref a1, .ref a1, .ref a2])
  obtain ⟨T4, X4, e4, st4⟩ := getF X3 hx hZ hown (host := "") (Or.inl (own_w hw 18 rfl)) Via.refl e3 F_size_a1 (g := (mkF m 35 #[rv a1, iv p1] [.ref a1, .ref a1, .ref a2])) rfl rfl (hb hby own_d_prog_14_method_2_35)
  refine own_st st4 ?_
  show own_E p e below _ T4 (mkF m 38 #[rv a1, iv p1] [.int 0, .ref a1, .ref a2])
  refine own_st (fun t k => XS.dupX1 X4.here hx rfl (hb hby own_d_prog_14_method_2_38) rfl rfl rfl k) ?_
  show own_E p e below _ T4 (mkF m 39 #[rv a1, iv p1] [.int 0, .ref a1, .int 0, .ref a2])
  refine own_st (fun t k => XS.iconst X4.here hx rfl (hb hby own_d_prog_14_method_2_39) k) ?_
  show own_E p e below _ T4 (mkF m 40 #[rv a1, iv p1] [.int 1, .int 0, .ref a1, .int 0, .ref a2])
  refine own_st (fun t k => XS.iadd X4.here hx rfl (hb hby own_d_prog_14_method_2_40) rfl k) ?_
  show own_E p e below _ T4 (mkF m 41 #[rv a1, iv p1] [.int 1, .ref a1, .int 0, .ref a2])
  obtain ⟨T5, h5, X5, e5, W5, st5⟩ := putF X4 hx hZ hown (host := "") (Or.inl (own_w hw 18 rfl)) Via.refl e4 F_size_a1 E_a1 (Or.inl (own_w hw 19 rfl)) (own_w hw 2 rfl) (ty := .int) (by decide) rfl rfl (g := (mkF m 41 #[rv a1, iv p1] [.int 1, .ref a1, .int 0, .ref a2])) rfl rfl (hb hby own_d_prog_14_method_2_41)
  have N5 := Fr.snoc X5 (Fr.nil n0) g_a1
  have Fw5 := F_size_a1.same W5
  have Z6 := Nat.le_trans Z0 (Keep.of_wr W5).1
  have K7 : Keep h0 _ [a1, a2] := (Keep.refl h0 [a1, a2]).wr W5 (Or.inl (List.mem_of_getElem? (i := 0) rfl))
  refine own_st st5 ?_
  show own_E p e below _ T5 (mkF m 44 #[rv a1, iv p1] [.int 0, .ref a2])
  refine own_st (fun t k => XS.iloadN X5.here hx rfl (hb hby own_d_prog_14_method_2_44) rfl k) ?_
  show own_E p e below _ T5 (mkF m 45 #[rv a1, iv p1] [.int p1, .int 0, .ref a2])
  have B8 := (V_a2.other W5 (Ne.symm ne12))
  obtain ⟨T9, h9, X9, e9, W9, Vw9, st9⟩ := own_ast X5 hx hZ e5 B8 (j := (0 : Int32)) ⟨by decide, by decide⟩ (x := p1) (i := 0) rfl (Nat.le_of_ble_eq_true rfl) (g := (mkF m 45 #[rv a1, iv p1] [.int p1, .int 0, .ref a2])) rfl rfl (hb hby own_d_prog_14_method_2_45)
  have V9 : Arv Z h9 a2 kc1 .int (16 : Int32) [(.int p1), (.int ea1), (.int ea2), (.int ea3), (.int ea4), (.int ea5), (.int ea6), (.int ea7), (.int ea8), (.int ea9), (.int ea10), (.int ea11), (.int ea12), (.int ea13), (.int ea14), (.int ea15)] (.int (0 : Int32)) := Vw9
  have N9 := Fr.snoc X9 N5 g_a2
  have Z10 := Nat.le_trans Z6 (Keep.of_wr W9).1
  have K11 : Keep h0 _ [a1, a2] := K7.wr W9 (Or.inl (List.mem_of_getElem? (i := 1) rfl))
  refine own_st st9 ?_
  show own_E p e below _ T9 (mkF m 46 #[rv a1, iv p1] [])
  refine own_retV X9 hx Bd.notSynchronized Bd.returns (hb hby own_d_prog_14_method_2_46) (by decide) (by decide) ?_
  have B12 := ((E_a1.wr W5).wr W9)
  have B13 := ((F_values_a1.other W5 (Or.inr (slot_ne (Or.inl (own_w hw 12 rfl)) (Or.inl (own_w hw 19 rfl)) (by decide) (t := (.array .int)) (t' := .int) (by decide) (by decide)))).other W9 (Or.inl ne12))
  have B14 := (Fw5.other W9 (Or.inl ne12))
  show own_add0_Q Z a1 a2 kc1 p1 ea0 ea1 ea2 ea3 ea4 ea5 ea6 ea7 ea8 ea9 ea10 ea11 ea12 ea13 ea14 ea15 h0 n0 _ T9.heap _
  rw [e9]
  exact ⟨rfl, N9, K11, B12, B13, B14, V9⟩
def own_add1_Q (Z : State) (a1 : Addr) (a2 : Addr) (kc1 : ClassId) (p1 : Int32) (ea0 : Int32) (ea1 : Int32) (ea2 : Int32) (ea3 : Int32) (ea4 : Int32) (ea5 : Int32) (ea6 : Int32) (ea7 : Int32) (ea8 : Int32) (ea9 : Int32) (ea10 : Int32) (ea11 : Int32) (ea12 : Int32) (ea13 : Int32) (ea14 : Int32) (ea15 : Int32) (h0 : Heap) (n0 : Nat) (v : Option Value) (h : Heap) (L : List Loc) : Prop := v = none ∧ Fr n0 L ∧ Keep h0 h [a1, a2] ∧ Exa Z h a1 "com/example/kalchas/kalchas/IntList" ∧ Fld Z h a1 "com/example/kalchas/kalchas/IntList" "values" "[I" (.ref a2) ∧ Fld Z h a1 "com/example/kalchas/kalchas/IntList" "size" "I" (.int (2 : Int32)) ∧ Arv Z h a2 kc1 .int (16 : Int32) [(.int ea0), (.int p1), (.int ea2), (.int ea3), (.int ea4), (.int ea5), (.int ea6), (.int ea7), (.int ea8), (.int ea9), (.int ea10), (.int ea11), (.int ea12), (.int ea13), (.int ea14), (.int ea15)] (.int (0 : Int32))
theorem own_add1_ef (m : MethodId) (a1 : Addr) (a2 : Addr) (kc1 : ClassId) (p1 : Int32) (ea0 : Int32) (ea1 : Int32) (ea2 : Int32) (ea3 : Int32) (ea4 : Int32) (ea5 : Int32) (ea6 : Int32) (ea7 : Int32) (ea8 : Int32) (ea9 : Int32) (ea10 : Int32) (ea11 : Int32) (ea12 : Int32) (ea13 : Int32) (ea14 : Int32) (ea15 : Int32) : entryFrame m #[(.ref a1), (.int p1)] 2 = mkF m 0 #[.val (.ref a1), .val (.int p1)] [] := by first | (simp [entryFrame, mkF, argsToLocals, Value.category]; done) | rfl
set_option maxRecDepth 65536 in
set_option maxHeartbeats 40000000 in
theorem own_add1 (l : Launch) (Z : State) (a0 : Array Value) (hw : ∀ d ∈ tables_1, d.before a0 Z = true) (ws : List Jvm.Cond) (a1 : Addr) (a2 : Addr) (kc1 : ClassId) (p1 : Int32) (ea0 : Int32) (ea1 : Int32) (ea2 : Int32) (ea3 : Int32) (ea4 : Int32) (ea5 : Int32) (ea6 : Int32) (ea7 : Int32) (ea8 : Int32) (ea9 : Int32) (ea10 : Int32) (ea11 : Int32) (ea12 : Int32) (ea13 : Int32) (ea14 : Int32) (ea15 : Int32) (h0 : Heap) (n0 : Nat) (Z0 : n0 ≤ h0.size) (E_a1 : Exa Z h0 a1 "com/example/kalchas/kalchas/IntList") (F_values_a1 : Fld Z h0 a1 "com/example/kalchas/kalchas/IntList" "values" "[I" (.ref a2)) (F_size_a1 : Fld Z h0 a1 "com/example/kalchas/kalchas/IntList" "size" "I" (.int (1 : Int32))) (V_a2 : Arv Z h0 a2 kc1 .int (16 : Int32) [(.int ea0), (.int ea1), (.int ea2), (.int ea3), (.int ea4), (.int ea5), (.int ea6), (.int ea7), (.int ea8), (.int ea9), (.int ea10), (.int ea11), (.int ea12), (.int ea13), (.int ea14), (.int ea15)] (.int (0 : Int32))) (ne12 : a1 ≠ a2) (g_a1 : n0 ≤ a1) (g_a2 : n0 ≤ a2) :
    MetFree l own_y5 (head1 (Jvm.Cond.code own_y5 prog_14_method_2_code 2 none :: ws) ({ frames := 0, cells := 0, slots := 0, locals := 0 } : Room)) (fun a U => a = #[(.ref a1), (.int p1)] ∧ Z.Warmed39 U.vm ∧ U.heap = h0) (fun _ _ _ _ _ => True) (fun _ U o U' => ∃ v L, o = .returned v ∧ own_add1_Q Z a1 a2 kc1 p1 ea0 ea1 ea2 ea3 ea4 ea5 ea6 ea7 ea8 ea9 ea10 ea11 ea12 ea13 ea14 ea15 h0 n0 v U'.heap L ∧ FrameEnd U o U' L ({ frames := 0, cells := 0, slots := 0, locals := 0 } : Room).cells ({ frames := 0, cells := 0, slots := 0, locals := 0 } : Room).slots) := by
  refine MetFree.of_bodySF (plainFor_of_name own_pn_IntList) hisR ?_
  intro p e s m args below meth c s₁ Bd hml0 hP hK
  obtain ⟨rfl, hZ, hh⟩ := hP
  have hx := Bd.exec
  have hby := Bd.bytes
  have hml : c.maxLocals = 2 := hml0
  have hown : s.vm.findClass "com/example/kalchas/kalchas/IntList" = some m.cls := findClass_of_methodNamed Bd.named
  have hnm := (name_of_methodNamed Bd.named Bd.method).1
  have X0 : Stand p l e ({ frames := 0, cells := 0, slots := 0, locals := 0 } : Room) s m #[(.ref a1), (.int p1)] below meth c s₁ [] 0 0 := Stand.of_body Bd
  have e0 : s₁.heap = h0 := by rw [← hh, Bd.state]; rfl
  show own_E p e below (own_K (own_add1_Q Z a1 a2 kc1 p1 ea0 ea1 ea2 ea3 ea4 ea5 ea6 ea7 ea8 ea9 ea10 ea11 ea12 ea13 ea14 ea15 h0 n0) s ({ frames := 0, cells := 0, slots := 0, locals := 0 } : Room).cells ({ frames := 0, cells := 0, slots := 0, locals := 0 } : Room).slots) s₁ (entryFrame m #[(.ref a1), (.int p1)] 2)
  refine own_pre (own_add1_ef m a1 a2 kc1 p1 ea0 ea1 ea2 ea3 ea4 ea5 ea6 ea7 ea8 ea9 ea10 ea11 ea12 ea13 ea14 ea15) ?_
  show own_E p e below _ s₁ (mkF m 0 #[rv a1, iv p1] [])
  refine own_st (fun t k => XS.aloadN X0.here hx rfl (hb hby own_d_prog_14_method_2_0) rfl rfl k) ?_
  show own_E p e below _ s₁ (mkF m 1 #[rv a1, iv p1] [.ref a1])
  obtain ⟨T1, X1, e1, st1⟩ := getF X0 hx hZ hown (host := "") (Or.inl (own_w hw 18 rfl)) Via.refl e0 F_size_a1 (g := (mkF m 1 #[rv a1, iv p1] [.ref a1])) rfl rfl (hb hby own_d_prog_14_method_2_1)
  refine own_st st1 ?_
  show own_E p e below _ T1 (mkF m 4 #[rv a1, iv p1] [.int 1])
  refine own_st (fun t k => XS.aloadN X1.here hx rfl (hb hby own_d_prog_14_method_2_4) rfl rfl k) ?_
  show own_E p e below _ T1 (mkF m 5 #[rv a1, iv p1] [.ref a1, .int 1])
  obtain ⟨T2, X2, e2, st2⟩ := getF X1 hx hZ hown (host := "") (Or.inl (own_w hw 11 rfl)) Via.refl e1 F_values_a1 (g := (mkF m 5 #[rv a1, iv p1] [.ref a1, .int 1])) rfl rfl (hb hby own_d_prog_14_method_2_5)
  refine own_st st2 ?_
  show own_E p e below _ T2 (mkF m 8 #[rv a1, iv p1] [.ref a2, .int 1])
  refine own_st (own_alen X2 hx hZ e2 V_a2 (g := (mkF m 8 #[rv a1, iv p1] [.ref a2, .int 1])) rfl rfl (hb hby own_d_prog_14_method_2_8)) ?_
  show own_E p e below _ T2 (mkF m 9 #[rv a1, iv p1] [.int 16, .int 1])
  refine own_st (fun t k => XS.icmpYes X2.here hx rfl (pc0 := 9) (pc' := 29) rfl (hb hby own_d_prog_14_method_2_9) rfl (by decide) (by decide) (by decide) k) ?_
  show own_E p e below _ T2 (mkF m 29 #[rv a1, iv p1] [])
  refine own_st (fun t k => XS.aloadN X2.here hx rfl (hb hby own_d_prog_14_method_2_29) rfl rfl k) ?_
  show own_E p e below _ T2 (mkF m 30 #[rv a1, iv p1] [.ref a1])
  obtain ⟨T3, X3, e3, st3⟩ := getF X2 hx hZ hown (host := "") (Or.inl (own_w hw 11 rfl)) Via.refl e2 F_values_a1 (g := (mkF m 30 #[rv a1, iv p1] [.ref a1])) rfl rfl (hb hby own_d_prog_14_method_2_30)
  refine own_st st3 ?_
  show own_E p e below _ T3 (mkF m 33 #[rv a1, iv p1] [.ref a2])
  refine own_st (fun t k => XS.aloadN X3.here hx rfl (hb hby own_d_prog_14_method_2_33) rfl rfl k) ?_
  show own_E p e below _ T3 (mkF m 34 #[rv a1, iv p1] [.ref a1, .ref a2])
  refine own_st (fun t k => XS.dup X3.here hx rfl (hb hby own_d_prog_14_method_2_34) rfl rfl k) ?_
  show own_E p e below _ T3 (mkF m 35 #[rv a1, iv p1] [.ref a1, .ref a1, .ref a2])
  obtain ⟨T4, X4, e4, st4⟩ := getF X3 hx hZ hown (host := "") (Or.inl (own_w hw 18 rfl)) Via.refl e3 F_size_a1 (g := (mkF m 35 #[rv a1, iv p1] [.ref a1, .ref a1, .ref a2])) rfl rfl (hb hby own_d_prog_14_method_2_35)
  refine own_st st4 ?_
  show own_E p e below _ T4 (mkF m 38 #[rv a1, iv p1] [.int 1, .ref a1, .ref a2])
  refine own_st (fun t k => XS.dupX1 X4.here hx rfl (hb hby own_d_prog_14_method_2_38) rfl rfl rfl k) ?_
  show own_E p e below _ T4 (mkF m 39 #[rv a1, iv p1] [.int 1, .ref a1, .int 1, .ref a2])
  refine own_st (fun t k => XS.iconst X4.here hx rfl (hb hby own_d_prog_14_method_2_39) k) ?_
  show own_E p e below _ T4 (mkF m 40 #[rv a1, iv p1] [.int 1, .int 1, .ref a1, .int 1, .ref a2])
  refine own_st (fun t k => XS.iadd X4.here hx rfl (hb hby own_d_prog_14_method_2_40) rfl k) ?_
  show own_E p e below _ T4 (mkF m 41 #[rv a1, iv p1] [.int 2, .ref a1, .int 1, .ref a2])
  obtain ⟨T5, h5, X5, e5, W5, st5⟩ := putF X4 hx hZ hown (host := "") (Or.inl (own_w hw 18 rfl)) Via.refl e4 F_size_a1 E_a1 (Or.inl (own_w hw 19 rfl)) (own_w hw 2 rfl) (ty := .int) (by decide) rfl rfl (g := (mkF m 41 #[rv a1, iv p1] [.int 2, .ref a1, .int 1, .ref a2])) rfl rfl (hb hby own_d_prog_14_method_2_41)
  have N5 := Fr.snoc X5 (Fr.nil n0) g_a1
  have Fw5 := F_size_a1.same W5
  have Z6 := Nat.le_trans Z0 (Keep.of_wr W5).1
  have K7 : Keep h0 _ [a1, a2] := (Keep.refl h0 [a1, a2]).wr W5 (Or.inl (List.mem_of_getElem? (i := 0) rfl))
  refine own_st st5 ?_
  show own_E p e below _ T5 (mkF m 44 #[rv a1, iv p1] [.int 1, .ref a2])
  refine own_st (fun t k => XS.iloadN X5.here hx rfl (hb hby own_d_prog_14_method_2_44) rfl k) ?_
  show own_E p e below _ T5 (mkF m 45 #[rv a1, iv p1] [.int p1, .int 1, .ref a2])
  have B8 := (V_a2.other W5 (Ne.symm ne12))
  obtain ⟨T9, h9, X9, e9, W9, Vw9, st9⟩ := own_ast X5 hx hZ e5 B8 (j := (1 : Int32)) ⟨by decide, by decide⟩ (x := p1) (i := 1) rfl (Nat.le_of_ble_eq_true rfl) (g := (mkF m 45 #[rv a1, iv p1] [.int p1, .int 1, .ref a2])) rfl rfl (hb hby own_d_prog_14_method_2_45)
  have V9 : Arv Z h9 a2 kc1 .int (16 : Int32) [(.int ea0), (.int p1), (.int ea2), (.int ea3), (.int ea4), (.int ea5), (.int ea6), (.int ea7), (.int ea8), (.int ea9), (.int ea10), (.int ea11), (.int ea12), (.int ea13), (.int ea14), (.int ea15)] (.int (0 : Int32)) := Vw9
  have N9 := Fr.snoc X9 N5 g_a2
  have Z10 := Nat.le_trans Z6 (Keep.of_wr W9).1
  have K11 : Keep h0 _ [a1, a2] := K7.wr W9 (Or.inl (List.mem_of_getElem? (i := 1) rfl))
  refine own_st st9 ?_
  show own_E p e below _ T9 (mkF m 46 #[rv a1, iv p1] [])
  refine own_retV X9 hx Bd.notSynchronized Bd.returns (hb hby own_d_prog_14_method_2_46) (by decide) (by decide) ?_
  have B12 := ((E_a1.wr W5).wr W9)
  have B13 := ((F_values_a1.other W5 (Or.inr (slot_ne (Or.inl (own_w hw 12 rfl)) (Or.inl (own_w hw 19 rfl)) (by decide) (t := (.array .int)) (t' := .int) (by decide) (by decide)))).other W9 (Or.inl ne12))
  have B14 := (Fw5.other W9 (Or.inl ne12))
  show own_add1_Q Z a1 a2 kc1 p1 ea0 ea1 ea2 ea3 ea4 ea5 ea6 ea7 ea8 ea9 ea10 ea11 ea12 ea13 ea14 ea15 h0 n0 _ T9.heap _
  rw [e9]
  exact ⟨rfl, N9, K11, B12, B13, B14, V9⟩
def own_add2_Q (Z : State) (a1 : Addr) (a2 : Addr) (kc1 : ClassId) (p1 : Int32) (ea0 : Int32) (ea1 : Int32) (ea2 : Int32) (ea3 : Int32) (ea4 : Int32) (ea5 : Int32) (ea6 : Int32) (ea7 : Int32) (ea8 : Int32) (ea9 : Int32) (ea10 : Int32) (ea11 : Int32) (ea12 : Int32) (ea13 : Int32) (ea14 : Int32) (ea15 : Int32) (h0 : Heap) (n0 : Nat) (v : Option Value) (h : Heap) (L : List Loc) : Prop := v = none ∧ Fr n0 L ∧ Keep h0 h [a1, a2] ∧ Exa Z h a1 "com/example/kalchas/kalchas/IntList" ∧ Fld Z h a1 "com/example/kalchas/kalchas/IntList" "values" "[I" (.ref a2) ∧ Fld Z h a1 "com/example/kalchas/kalchas/IntList" "size" "I" (.int (3 : Int32)) ∧ Arv Z h a2 kc1 .int (16 : Int32) [(.int ea0), (.int ea1), (.int p1), (.int ea3), (.int ea4), (.int ea5), (.int ea6), (.int ea7), (.int ea8), (.int ea9), (.int ea10), (.int ea11), (.int ea12), (.int ea13), (.int ea14), (.int ea15)] (.int (0 : Int32))
theorem own_add2_ef (m : MethodId) (a1 : Addr) (a2 : Addr) (kc1 : ClassId) (p1 : Int32) (ea0 : Int32) (ea1 : Int32) (ea2 : Int32) (ea3 : Int32) (ea4 : Int32) (ea5 : Int32) (ea6 : Int32) (ea7 : Int32) (ea8 : Int32) (ea9 : Int32) (ea10 : Int32) (ea11 : Int32) (ea12 : Int32) (ea13 : Int32) (ea14 : Int32) (ea15 : Int32) : entryFrame m #[(.ref a1), (.int p1)] 2 = mkF m 0 #[.val (.ref a1), .val (.int p1)] [] := by first | (simp [entryFrame, mkF, argsToLocals, Value.category]; done) | rfl
set_option maxRecDepth 65536 in
set_option maxHeartbeats 40000000 in
theorem own_add2 (l : Launch) (Z : State) (a0 : Array Value) (hw : ∀ d ∈ tables_1, d.before a0 Z = true) (ws : List Jvm.Cond) (a1 : Addr) (a2 : Addr) (kc1 : ClassId) (p1 : Int32) (ea0 : Int32) (ea1 : Int32) (ea2 : Int32) (ea3 : Int32) (ea4 : Int32) (ea5 : Int32) (ea6 : Int32) (ea7 : Int32) (ea8 : Int32) (ea9 : Int32) (ea10 : Int32) (ea11 : Int32) (ea12 : Int32) (ea13 : Int32) (ea14 : Int32) (ea15 : Int32) (h0 : Heap) (n0 : Nat) (Z0 : n0 ≤ h0.size) (E_a1 : Exa Z h0 a1 "com/example/kalchas/kalchas/IntList") (F_values_a1 : Fld Z h0 a1 "com/example/kalchas/kalchas/IntList" "values" "[I" (.ref a2)) (F_size_a1 : Fld Z h0 a1 "com/example/kalchas/kalchas/IntList" "size" "I" (.int (2 : Int32))) (V_a2 : Arv Z h0 a2 kc1 .int (16 : Int32) [(.int ea0), (.int ea1), (.int ea2), (.int ea3), (.int ea4), (.int ea5), (.int ea6), (.int ea7), (.int ea8), (.int ea9), (.int ea10), (.int ea11), (.int ea12), (.int ea13), (.int ea14), (.int ea15)] (.int (0 : Int32))) (ne12 : a1 ≠ a2) (g_a1 : n0 ≤ a1) (g_a2 : n0 ≤ a2) :
    MetFree l own_y5 (head1 (Jvm.Cond.code own_y5 prog_14_method_2_code 2 none :: ws) ({ frames := 0, cells := 0, slots := 0, locals := 0 } : Room)) (fun a U => a = #[(.ref a1), (.int p1)] ∧ Z.Warmed39 U.vm ∧ U.heap = h0) (fun _ _ _ _ _ => True) (fun _ U o U' => ∃ v L, o = .returned v ∧ own_add2_Q Z a1 a2 kc1 p1 ea0 ea1 ea2 ea3 ea4 ea5 ea6 ea7 ea8 ea9 ea10 ea11 ea12 ea13 ea14 ea15 h0 n0 v U'.heap L ∧ FrameEnd U o U' L ({ frames := 0, cells := 0, slots := 0, locals := 0 } : Room).cells ({ frames := 0, cells := 0, slots := 0, locals := 0 } : Room).slots) := by
  refine MetFree.of_bodySF (plainFor_of_name own_pn_IntList) hisR ?_
  intro p e s m args below meth c s₁ Bd hml0 hP hK
  obtain ⟨rfl, hZ, hh⟩ := hP
  have hx := Bd.exec
  have hby := Bd.bytes
  have hml : c.maxLocals = 2 := hml0
  have hown : s.vm.findClass "com/example/kalchas/kalchas/IntList" = some m.cls := findClass_of_methodNamed Bd.named
  have hnm := (name_of_methodNamed Bd.named Bd.method).1
  have X0 : Stand p l e ({ frames := 0, cells := 0, slots := 0, locals := 0 } : Room) s m #[(.ref a1), (.int p1)] below meth c s₁ [] 0 0 := Stand.of_body Bd
  have e0 : s₁.heap = h0 := by rw [← hh, Bd.state]; rfl
  show own_E p e below (own_K (own_add2_Q Z a1 a2 kc1 p1 ea0 ea1 ea2 ea3 ea4 ea5 ea6 ea7 ea8 ea9 ea10 ea11 ea12 ea13 ea14 ea15 h0 n0) s ({ frames := 0, cells := 0, slots := 0, locals := 0 } : Room).cells ({ frames := 0, cells := 0, slots := 0, locals := 0 } : Room).slots) s₁ (entryFrame m #[(.ref a1), (.int p1)] 2)
  refine own_pre (own_add2_ef m a1 a2 kc1 p1 ea0 ea1 ea2 ea3 ea4 ea5 ea6 ea7 ea8 ea9 ea10 ea11 ea12 ea13 ea14 ea15) ?_
  show own_E p e below _ s₁ (mkF m 0 #[rv a1, iv p1] [])
  refine own_st (fun t k => XS.aloadN X0.here hx rfl (hb hby own_d_prog_14_method_2_0) rfl rfl k) ?_
  show own_E p e below _ s₁ (mkF m 1 #[rv a1, iv p1] [.ref a1])
  obtain ⟨T1, X1, e1, st1⟩ := getF X0 hx hZ hown (host := "") (Or.inl (own_w hw 18 rfl)) Via.refl e0 F_size_a1 (g := (mkF m 1 #[rv a1, iv p1] [.ref a1])) rfl rfl (hb hby own_d_prog_14_method_2_1)
  refine own_st st1 ?_
  show own_E p e below _ T1 (mkF m 4 #[rv a1, iv p1] [.int 2])
  refine own_st (fun t k => XS.aloadN X1.here hx rfl (hb hby own_d_prog_14_method_2_4) rfl rfl k) ?_
  show own_E p e below _ T1 (mkF m 5 #[rv a1, iv p1] [.ref a1, .int 2])
  obtain ⟨T2, X2, e2, st2⟩ := getF X1 hx hZ hown (host := "") (Or.inl (own_w hw 11 rfl)) Via.refl e1 F_values_a1 (g := (mkF m 5 #[rv a1, iv p1] [.ref a1, .int 2])) rfl rfl (hb hby own_d_prog_14_method_2_5)
  refine own_st st2 ?_
  show own_E p e below _ T2 (mkF m 8 #[rv a1, iv p1] [.ref a2, .int 2])
  refine own_st (own_alen X2 hx hZ e2 V_a2 (g := (mkF m 8 #[rv a1, iv p1] [.ref a2, .int 2])) rfl rfl (hb hby own_d_prog_14_method_2_8)) ?_
  show own_E p e below _ T2 (mkF m 9 #[rv a1, iv p1] [.int 16, .int 2])
  refine own_st (fun t k => XS.icmpYes X2.here hx rfl (pc0 := 9) (pc' := 29) rfl (hb hby own_d_prog_14_method_2_9) rfl (by decide) (by decide) (by decide) k) ?_
  show own_E p e below _ T2 (mkF m 29 #[rv a1, iv p1] [])
  refine own_st (fun t k => XS.aloadN X2.here hx rfl (hb hby own_d_prog_14_method_2_29) rfl rfl k) ?_
  show own_E p e below _ T2 (mkF m 30 #[rv a1, iv p1] [.ref a1])
  obtain ⟨T3, X3, e3, st3⟩ := getF X2 hx hZ hown (host := "") (Or.inl (own_w hw 11 rfl)) Via.refl e2 F_values_a1 (g := (mkF m 30 #[rv a1, iv p1] [.ref a1])) rfl rfl (hb hby own_d_prog_14_method_2_30)
  refine own_st st3 ?_
  show own_E p e below _ T3 (mkF m 33 #[rv a1, iv p1] [.ref a2])
  refine own_st (fun t k => XS.aloadN X3.here hx rfl (hb hby own_d_prog_14_method_2_33) rfl rfl k) ?_
  show own_E p e below _ T3 (mkF m 34 #[rv a1, iv p1] [.ref a1, .ref a2])
  refine own_st (fun t k => XS.dup X3.here hx rfl (hb hby own_d_prog_14_method_2_34) rfl rfl k) ?_
  show own_E p e below _ T3 (mkF m 35 #[rv a1, iv p1] [.ref a1, .ref a1, .ref a2])
  obtain ⟨T4, X4, e4, st4⟩ := getF X3 hx hZ hown (host := "") (Or.inl (own_w hw 18 rfl)) Via.refl e3 F_size_a1 (g := (mkF m 35 #[rv a1, iv p1] [.ref a1, .ref a1, .ref a2])) rfl rfl (hb hby own_d_prog_14_method_2_35)
  refine own_st st4 ?_
  show own_E p e below _ T4 (mkF m 38 #[rv a1, iv p1] [.int 2, .ref a1, .ref a2])
  refine own_st (fun t k => XS.dupX1 X4.here hx rfl (hb hby own_d_prog_14_method_2_38) rfl rfl rfl k) ?_
  show own_E p e below _ T4 (mkF m 39 #[rv a1, iv p1] [.int 2, .ref a1, .int 2, .ref a2])
  refine own_st (fun t k => XS.iconst X4.here hx rfl (hb hby own_d_prog_14_method_2_39) k) ?_
  show own_E p e below _ T4 (mkF m 40 #[rv a1, iv p1] [.int 1, .int 2, .ref a1, .int 2, .ref a2])
  refine own_st (fun t k => XS.iadd X4.here hx rfl (hb hby own_d_prog_14_method_2_40) rfl k) ?_
  show own_E p e below _ T4 (mkF m 41 #[rv a1, iv p1] [.int 3, .ref a1, .int 2, .ref a2])
  obtain ⟨T5, h5, X5, e5, W5, st5⟩ := putF X4 hx hZ hown (host := "") (Or.inl (own_w hw 18 rfl)) Via.refl e4 F_size_a1 E_a1 (Or.inl (own_w hw 19 rfl)) (own_w hw 2 rfl) (ty := .int) (by decide) rfl rfl (g := (mkF m 41 #[rv a1, iv p1] [.int 3, .ref a1, .int 2, .ref a2])) rfl rfl (hb hby own_d_prog_14_method_2_41)
  have N5 := Fr.snoc X5 (Fr.nil n0) g_a1
  have Fw5 := F_size_a1.same W5
  have Z6 := Nat.le_trans Z0 (Keep.of_wr W5).1
  have K7 : Keep h0 _ [a1, a2] := (Keep.refl h0 [a1, a2]).wr W5 (Or.inl (List.mem_of_getElem? (i := 0) rfl))
  refine own_st st5 ?_
  show own_E p e below _ T5 (mkF m 44 #[rv a1, iv p1] [.int 2, .ref a2])
  refine own_st (fun t k => XS.iloadN X5.here hx rfl (hb hby own_d_prog_14_method_2_44) rfl k) ?_
  show own_E p e below _ T5 (mkF m 45 #[rv a1, iv p1] [.int p1, .int 2, .ref a2])
  have B8 := (V_a2.other W5 (Ne.symm ne12))
  obtain ⟨T9, h9, X9, e9, W9, Vw9, st9⟩ := own_ast X5 hx hZ e5 B8 (j := (2 : Int32)) ⟨by decide, by decide⟩ (x := p1) (i := 2) rfl (Nat.le_of_ble_eq_true rfl) (g := (mkF m 45 #[rv a1, iv p1] [.int p1, .int 2, .ref a2])) rfl rfl (hb hby own_d_prog_14_method_2_45)
  have V9 : Arv Z h9 a2 kc1 .int (16 : Int32) [(.int ea0), (.int ea1), (.int p1), (.int ea3), (.int ea4), (.int ea5), (.int ea6), (.int ea7), (.int ea8), (.int ea9), (.int ea10), (.int ea11), (.int ea12), (.int ea13), (.int ea14), (.int ea15)] (.int (0 : Int32)) := Vw9
  have N9 := Fr.snoc X9 N5 g_a2
  have Z10 := Nat.le_trans Z6 (Keep.of_wr W9).1
  have K11 : Keep h0 _ [a1, a2] := K7.wr W9 (Or.inl (List.mem_of_getElem? (i := 1) rfl))
  refine own_st st9 ?_
  show own_E p e below _ T9 (mkF m 46 #[rv a1, iv p1] [])
  refine own_retV X9 hx Bd.notSynchronized Bd.returns (hb hby own_d_prog_14_method_2_46) (by decide) (by decide) ?_
  have B12 := ((E_a1.wr W5).wr W9)
  have B13 := ((F_values_a1.other W5 (Or.inr (slot_ne (Or.inl (own_w hw 12 rfl)) (Or.inl (own_w hw 19 rfl)) (by decide) (t := (.array .int)) (t' := .int) (by decide) (by decide)))).other W9 (Or.inl ne12))
  have B14 := (Fw5.other W9 (Or.inl ne12))
  show own_add2_Q Z a1 a2 kc1 p1 ea0 ea1 ea2 ea3 ea4 ea5 ea6 ea7 ea8 ea9 ea10 ea11 ea12 ea13 ea14 ea15 h0 n0 _ T9.heap _
  rw [e9]
  exact ⟨rfl, N9, K11, B12, B13, B14, V9⟩
def own_add3_Q (Z : State) (a1 : Addr) (a2 : Addr) (kc1 : ClassId) (p1 : Int32) (ea0 : Int32) (ea1 : Int32) (ea2 : Int32) (ea3 : Int32) (ea4 : Int32) (ea5 : Int32) (ea6 : Int32) (ea7 : Int32) (ea8 : Int32) (ea9 : Int32) (ea10 : Int32) (ea11 : Int32) (ea12 : Int32) (ea13 : Int32) (ea14 : Int32) (ea15 : Int32) (h0 : Heap) (n0 : Nat) (v : Option Value) (h : Heap) (L : List Loc) : Prop := v = none ∧ Fr n0 L ∧ Keep h0 h [a1, a2] ∧ Exa Z h a1 "com/example/kalchas/kalchas/IntList" ∧ Fld Z h a1 "com/example/kalchas/kalchas/IntList" "values" "[I" (.ref a2) ∧ Fld Z h a1 "com/example/kalchas/kalchas/IntList" "size" "I" (.int (4 : Int32)) ∧ Arv Z h a2 kc1 .int (16 : Int32) [(.int ea0), (.int ea1), (.int ea2), (.int p1), (.int ea4), (.int ea5), (.int ea6), (.int ea7), (.int ea8), (.int ea9), (.int ea10), (.int ea11), (.int ea12), (.int ea13), (.int ea14), (.int ea15)] (.int (0 : Int32))
theorem own_add3_ef (m : MethodId) (a1 : Addr) (a2 : Addr) (kc1 : ClassId) (p1 : Int32) (ea0 : Int32) (ea1 : Int32) (ea2 : Int32) (ea3 : Int32) (ea4 : Int32) (ea5 : Int32) (ea6 : Int32) (ea7 : Int32) (ea8 : Int32) (ea9 : Int32) (ea10 : Int32) (ea11 : Int32) (ea12 : Int32) (ea13 : Int32) (ea14 : Int32) (ea15 : Int32) : entryFrame m #[(.ref a1), (.int p1)] 2 = mkF m 0 #[.val (.ref a1), .val (.int p1)] [] := by first | (simp [entryFrame, mkF, argsToLocals, Value.category]; done) | rfl
set_option maxRecDepth 65536 in
set_option maxHeartbeats 40000000 in
theorem own_add3 (l : Launch) (Z : State) (a0 : Array Value) (hw : ∀ d ∈ tables_1, d.before a0 Z = true) (ws : List Jvm.Cond) (a1 : Addr) (a2 : Addr) (kc1 : ClassId) (p1 : Int32) (ea0 : Int32) (ea1 : Int32) (ea2 : Int32) (ea3 : Int32) (ea4 : Int32) (ea5 : Int32) (ea6 : Int32) (ea7 : Int32) (ea8 : Int32) (ea9 : Int32) (ea10 : Int32) (ea11 : Int32) (ea12 : Int32) (ea13 : Int32) (ea14 : Int32) (ea15 : Int32) (h0 : Heap) (n0 : Nat) (Z0 : n0 ≤ h0.size) (E_a1 : Exa Z h0 a1 "com/example/kalchas/kalchas/IntList") (F_values_a1 : Fld Z h0 a1 "com/example/kalchas/kalchas/IntList" "values" "[I" (.ref a2)) (F_size_a1 : Fld Z h0 a1 "com/example/kalchas/kalchas/IntList" "size" "I" (.int (3 : Int32))) (V_a2 : Arv Z h0 a2 kc1 .int (16 : Int32) [(.int ea0), (.int ea1), (.int ea2), (.int ea3), (.int ea4), (.int ea5), (.int ea6), (.int ea7), (.int ea8), (.int ea9), (.int ea10), (.int ea11), (.int ea12), (.int ea13), (.int ea14), (.int ea15)] (.int (0 : Int32))) (ne12 : a1 ≠ a2) (g_a1 : n0 ≤ a1) (g_a2 : n0 ≤ a2) :
    MetFree l own_y5 (head1 (Jvm.Cond.code own_y5 prog_14_method_2_code 2 none :: ws) ({ frames := 0, cells := 0, slots := 0, locals := 0 } : Room)) (fun a U => a = #[(.ref a1), (.int p1)] ∧ Z.Warmed39 U.vm ∧ U.heap = h0) (fun _ _ _ _ _ => True) (fun _ U o U' => ∃ v L, o = .returned v ∧ own_add3_Q Z a1 a2 kc1 p1 ea0 ea1 ea2 ea3 ea4 ea5 ea6 ea7 ea8 ea9 ea10 ea11 ea12 ea13 ea14 ea15 h0 n0 v U'.heap L ∧ FrameEnd U o U' L ({ frames := 0, cells := 0, slots := 0, locals := 0 } : Room).cells ({ frames := 0, cells := 0, slots := 0, locals := 0 } : Room).slots) := by
  refine MetFree.of_bodySF (plainFor_of_name own_pn_IntList) hisR ?_
  intro p e s m args below meth c s₁ Bd hml0 hP hK
  obtain ⟨rfl, hZ, hh⟩ := hP
  have hx := Bd.exec
  have hby := Bd.bytes
  have hml : c.maxLocals = 2 := hml0
  have hown : s.vm.findClass "com/example/kalchas/kalchas/IntList" = some m.cls := findClass_of_methodNamed Bd.named
  have hnm := (name_of_methodNamed Bd.named Bd.method).1
  have X0 : Stand p l e ({ frames := 0, cells := 0, slots := 0, locals := 0 } : Room) s m #[(.ref a1), (.int p1)] below meth c s₁ [] 0 0 := Stand.of_body Bd
  have e0 : s₁.heap = h0 := by rw [← hh, Bd.state]; rfl
  show own_E p e below (own_K (own_add3_Q Z a1 a2 kc1 p1 ea0 ea1 ea2 ea3 ea4 ea5 ea6 ea7 ea8 ea9 ea10 ea11 ea12 ea13 ea14 ea15 h0 n0) s ({ frames := 0, cells := 0, slots := 0, locals := 0 } : Room).cells ({ frames := 0, cells := 0, slots := 0, locals := 0 } : Room).slots) s₁ (entryFrame m #[(.ref a1), (.int p1)] 2)
  refine own_pre (own_add3_ef m a1 a2 kc1 p1 ea0 ea1 ea2 ea3 ea4 ea5 ea6 ea7 ea8 ea9 ea10 ea11 ea12 ea13 ea14 ea15) ?_
  show own_E p e below _ s₁ (mkF m 0 #[rv a1, iv p1] [])
  refine own_st (fun t k => XS.aloadN X0.here hx rfl (hb hby own_d_prog_14_method_2_0) rfl rfl k) ?_
  show own_E p e below _ s₁ (mkF m 1 #[rv a1, iv p1] [.ref a1])
  obtain ⟨T1, X1, e1, st1⟩ := getF X0 hx hZ hown (host := "") (Or.inl (own_w hw 18 rfl)) Via.refl e0 F_size_a1 (g := (mkF m 1 #[rv a1, iv p1] [.ref a1])) rfl rfl (hb hby own_d_prog_14_method_2_1)
  refine own_st st1 ?_
  show own_E p e below _ T1 (mkF m 4 #[rv a1, iv p1] [.int 3])
  refine own_st (fun t k => XS.aloadN X1.here hx rfl (hb hby own_d_prog_14_method_2_4) rfl rfl k) ?_
  show own_E p e below _ T1 (mkF m 5 #[rv a1, iv p1] [.ref a1, .int 3])
  obtain ⟨T2, X2, e2, st2⟩ := getF X1 hx hZ hown (host := "") (Or.inl (own_w hw 11 rfl)) Via.refl e1 F_values_a1 (g := (mkF m 5 #[rv a1, iv p1] [.ref a1, .int 3])) rfl rfl (hb hby own_d_prog_14_method_2_5)
  refine own_st st2 ?_
  show own_E p e below _ T2 (mkF m 8 #[rv a1, iv p1] [.ref a2, .int 3])
  refine own_st (own_alen X2 hx hZ e2 V_a2 (g := (mkF m 8 #[rv a1, iv p1] [.ref a2, .int 3])) rfl rfl (hb hby own_d_prog_14_method_2_8)) ?_
  show own_E p e below _ T2 (mkF m 9 #[rv a1, iv p1] [.int 16, .int 3])
  refine own_st (fun t k => XS.icmpYes X2.here hx rfl (pc0 := 9) (pc' := 29) rfl (hb hby own_d_prog_14_method_2_9) rfl (by decide) (by decide) (by decide) k) ?_
  show own_E p e below _ T2 (mkF m 29 #[rv a1, iv p1] [])
  refine own_st (fun t k => XS.aloadN X2.here hx rfl (hb hby own_d_prog_14_method_2_29) rfl rfl k) ?_
  show own_E p e below _ T2 (mkF m 30 #[rv a1, iv p1] [.ref a1])
  obtain ⟨T3, X3, e3, st3⟩ := getF X2 hx hZ hown (host := "") (Or.inl (own_w hw 11 rfl)) Via.refl e2 F_values_a1 (g := (mkF m 30 #[rv a1, iv p1] [.ref a1])) rfl rfl (hb hby own_d_prog_14_method_2_30)
  refine own_st st3 ?_
  show own_E p e below _ T3 (mkF m 33 #[rv a1, iv p1] [.ref a2])
  refine own_st (fun t k => XS.aloadN X3.here hx rfl (hb hby own_d_prog_14_method_2_33) rfl rfl k) ?_
  show own_E p e below _ T3 (mkF m 34 #[rv a1, iv p1] [.ref a1, .ref a2])
  refine own_st (fun t k => XS.dup X3.here hx rfl (hb hby own_d_prog_14_method_2_34) rfl rfl k) ?_
  show own_E p e below _ T3 (mkF m 35 #[rv a1, iv p1] [.ref a1, .ref a1, .ref a2])
  obtain ⟨T4, X4, e4, st4⟩ := getF X3 hx hZ hown (host := "") (Or.inl (own_w hw 18 rfl)) Via.refl e3 F_size_a1 (g := (mkF m 35 #[rv a1, iv p1] [.ref a1, .ref a1, .ref a2])) rfl rfl (hb hby own_d_prog_14_method_2_35)
  refine own_st st4 ?_
  show own_E p e below _ T4 (mkF m 38 #[rv a1, iv p1] [.int 3, .ref a1, .ref a2])
  refine own_st (fun t k => XS.dupX1 X4.here hx rfl (hb hby own_d_prog_14_method_2_38) rfl rfl rfl k) ?_
  show own_E p e below _ T4 (mkF m 39 #[rv a1, iv p1] [.int 3, .ref a1, .int 3, .ref a2])
  refine own_st (fun t k => XS.iconst X4.here hx rfl (hb hby own_d_prog_14_method_2_39) k) ?_
  show own_E p e below _ T4 (mkF m 40 #[rv a1, iv p1] [.int 1, .int 3, .ref a1, .int 3, .ref a2])
  refine own_st (fun t k => XS.iadd X4.here hx rfl (hb hby own_d_prog_14_method_2_40) rfl k) ?_
  show own_E p e below _ T4 (mkF m 41 #[rv a1, iv p1] [.int 4, .ref a1, .int 3, .ref a2])
  obtain ⟨T5, h5, X5, e5, W5, st5⟩ := putF X4 hx hZ hown (host := "") (Or.inl (own_w hw 18 rfl)) Via.refl e4 F_size_a1 E_a1 (Or.inl (own_w hw 19 rfl)) (own_w hw 2 rfl) (ty := .int) (by decide) rfl rfl (g := (mkF m 41 #[rv a1, iv p1] [.int 4, .ref a1, .int 3, .ref a2])) rfl rfl (hb hby own_d_prog_14_method_2_41)
  have N5 := Fr.snoc X5 (Fr.nil n0) g_a1
  have Fw5 := F_size_a1.same W5
  have Z6 := Nat.le_trans Z0 (Keep.of_wr W5).1
  have K7 : Keep h0 _ [a1, a2] := (Keep.refl h0 [a1, a2]).wr W5 (Or.inl (List.mem_of_getElem? (i := 0) rfl))
  refine own_st st5 ?_
  show own_E p e below _ T5 (mkF m 44 #[rv a1, iv p1] [.int 3, .ref a2])
  refine own_st (fun t k => XS.iloadN X5.here hx rfl (hb hby own_d_prog_14_method_2_44) rfl k) ?_
  show own_E p e below _ T5 (mkF m 45 #[rv a1, iv p1] [.int p1, .int 3, .ref a2])
  have B8 := (V_a2.other W5 (Ne.symm ne12))
  obtain ⟨T9, h9, X9, e9, W9, Vw9, st9⟩ := own_ast X5 hx hZ e5 B8 (j := (3 : Int32)) ⟨by decide, by decide⟩ (x := p1) (i := 3) rfl (Nat.le_of_ble_eq_true rfl) (g := (mkF m 45 #[rv a1, iv p1] [.int p1, .int 3, .ref a2])) rfl rfl (hb hby own_d_prog_14_method_2_45)
  have V9 : Arv Z h9 a2 kc1 .int (16 : Int32) [(.int ea0), (.int ea1), (.int ea2), (.int p1), (.int ea4), (.int ea5), (.int ea6), (.int ea7), (.int ea8), (.int ea9), (.int ea10), (.int ea11), (.int ea12), (.int ea13), (.int ea14), (.int ea15)] (.int (0 : Int32)) := Vw9
  have N9 := Fr.snoc X9 N5 g_a2
  have Z10 := Nat.le_trans Z6 (Keep.of_wr W9).1
  have K11 : Keep h0 _ [a1, a2] := K7.wr W9 (Or.inl (List.mem_of_getElem? (i := 1) rfl))
  refine own_st st9 ?_
  show own_E p e below _ T9 (mkF m 46 #[rv a1, iv p1] [])
  refine own_retV X9 hx Bd.notSynchronized Bd.returns (hb hby own_d_prog_14_method_2_46) (by decide) (by decide) ?_
  have B12 := ((E_a1.wr W5).wr W9)
  have B13 := ((F_values_a1.other W5 (Or.inr (slot_ne (Or.inl (own_w hw 12 rfl)) (Or.inl (own_w hw 19 rfl)) (by decide) (t := (.array .int)) (t' := .int) (by decide) (by decide)))).other W9 (Or.inl ne12))
  have B14 := (Fw5.other W9 (Or.inl ne12))
  show own_add3_Q Z a1 a2 kc1 p1 ea0 ea1 ea2 ea3 ea4 ea5 ea6 ea7 ea8 ea9 ea10 ea11 ea12 ea13 ea14 ea15 h0 n0 _ T9.heap _
  rw [e9]
  exact ⟨rfl, N9, K11, B12, B13, B14, V9⟩
def own_add4_Q (Z : State) (a1 : Addr) (a2 : Addr) (kc1 : ClassId) (p1 : Int32) (ea0 : Int32) (ea1 : Int32) (ea2 : Int32) (ea3 : Int32) (ea4 : Int32) (ea5 : Int32) (ea6 : Int32) (ea7 : Int32) (ea8 : Int32) (ea9 : Int32) (ea10 : Int32) (ea11 : Int32) (ea12 : Int32) (ea13 : Int32) (ea14 : Int32) (ea15 : Int32) (h0 : Heap) (n0 : Nat) (v : Option Value) (h : Heap) (L : List Loc) : Prop := v = none ∧ Fr n0 L ∧ Keep h0 h [a1, a2] ∧ Exa Z h a1 "com/example/kalchas/kalchas/IntList" ∧ Fld Z h a1 "com/example/kalchas/kalchas/IntList" "values" "[I" (.ref a2) ∧ Fld Z h a1 "com/example/kalchas/kalchas/IntList" "size" "I" (.int (5 : Int32)) ∧ Arv Z h a2 kc1 .int (16 : Int32) [(.int ea0), (.int ea1), (.int ea2), (.int ea3), (.int p1), (.int ea5), (.int ea6), (.int ea7), (.int ea8), (.int ea9), (.int ea10), (.int ea11), (.int ea12), (.int ea13), (.int ea14), (.int ea15)] (.int (0 : Int32))
theorem own_add4_ef (m : MethodId) (a1 : Addr) (a2 : Addr) (kc1 : ClassId) (p1 : Int32) (ea0 : Int32) (ea1 : Int32) (ea2 : Int32) (ea3 : Int32) (ea4 : Int32) (ea5 : Int32) (ea6 : Int32) (ea7 : Int32) (ea8 : Int32) (ea9 : Int32) (ea10 : Int32) (ea11 : Int32) (ea12 : Int32) (ea13 : Int32) (ea14 : Int32) (ea15 : Int32) : entryFrame m #[(.ref a1), (.int p1)] 2 = mkF m 0 #[.val (.ref a1), .val (.int p1)] [] := by first | (simp [entryFrame, mkF, argsToLocals, Value.category]; done) | rfl
set_option maxRecDepth 65536 in
set_option maxHeartbeats 40000000 in
theorem own_add4 (l : Launch) (Z : State) (a0 : Array Value) (hw : ∀ d ∈ tables_1, d.before a0 Z = true) (ws : List Jvm.Cond) (a1 : Addr) (a2 : Addr) (kc1 : ClassId) (p1 : Int32) (ea0 : Int32) (ea1 : Int32) (ea2 : Int32) (ea3 : Int32) (ea4 : Int32) (ea5 : Int32) (ea6 : Int32) (ea7 : Int32) (ea8 : Int32) (ea9 : Int32) (ea10 : Int32) (ea11 : Int32) (ea12 : Int32) (ea13 : Int32) (ea14 : Int32) (ea15 : Int32) (h0 : Heap) (n0 : Nat) (Z0 : n0 ≤ h0.size) (E_a1 : Exa Z h0 a1 "com/example/kalchas/kalchas/IntList") (F_values_a1 : Fld Z h0 a1 "com/example/kalchas/kalchas/IntList" "values" "[I" (.ref a2)) (F_size_a1 : Fld Z h0 a1 "com/example/kalchas/kalchas/IntList" "size" "I" (.int (4 : Int32))) (V_a2 : Arv Z h0 a2 kc1 .int (16 : Int32) [(.int ea0), (.int ea1), (.int ea2), (.int ea3), (.int ea4), (.int ea5), (.int ea6), (.int ea7), (.int ea8), (.int ea9), (.int ea10), (.int ea11), (.int ea12), (.int ea13), (.int ea14), (.int ea15)] (.int (0 : Int32))) (ne12 : a1 ≠ a2) (g_a1 : n0 ≤ a1) (g_a2 : n0 ≤ a2) :
    MetFree l own_y5 (head1 (Jvm.Cond.code own_y5 prog_14_method_2_code 2 none :: ws) ({ frames := 0, cells := 0, slots := 0, locals := 0 } : Room)) (fun a U => a = #[(.ref a1), (.int p1)] ∧ Z.Warmed39 U.vm ∧ U.heap = h0) (fun _ _ _ _ _ => True) (fun _ U o U' => ∃ v L, o = .returned v ∧ own_add4_Q Z a1 a2 kc1 p1 ea0 ea1 ea2 ea3 ea4 ea5 ea6 ea7 ea8 ea9 ea10 ea11 ea12 ea13 ea14 ea15 h0 n0 v U'.heap L ∧ FrameEnd U o U' L ({ frames := 0, cells := 0, slots := 0, locals := 0 } : Room).cells ({ frames := 0, cells := 0, slots := 0, locals := 0 } : Room).slots) := by
  refine MetFree.of_bodySF (plainFor_of_name own_pn_IntList) hisR ?_
  intro p e s m args below meth c s₁ Bd hml0 hP hK
  obtain ⟨rfl, hZ, hh⟩ := hP
  have hx := Bd.exec
  have hby := Bd.bytes
  have hml : c.maxLocals = 2 := hml0
  have hown : s.vm.findClass "com/example/kalchas/kalchas/IntList" = some m.cls := findClass_of_methodNamed Bd.named
  have hnm := (name_of_methodNamed Bd.named Bd.method).1
  have X0 : Stand p l e ({ frames := 0, cells := 0, slots := 0, locals := 0 } : Room) s m #[(.ref a1), (.int p1)] below meth c s₁ [] 0 0 := Stand.of_body Bd
  have e0 : s₁.heap = h0 := by rw [← hh, Bd.state]; rfl
  show own_E p e below (own_K (own_add4_Q Z a1 a2 kc1 p1 ea0 ea1 ea2 ea3 ea4 ea5 ea6 ea7 ea8 ea9 ea10 ea11 ea12 ea13 ea14 ea15 h0 n0) s ({ frames := 0, cells := 0, slots := 0, locals := 0 } : Room).cells ({ frames := 0, cells := 0, slots := 0, locals := 0 } : Room).slots) s₁ (entryFrame m #[(.ref a1), (.int p1)] 2)
  refine own_pre (own_add4_ef m a1 a2 kc1 p1 ea0 ea1 ea2 ea3 ea4 ea5 ea6 ea7 ea8 ea9 ea10 ea11 ea12 ea13 ea14 ea15) ?_
  show own_E p e below _ s₁ (mkF m 0 #[rv a1, iv p1] [])
  refine own_st (fun t k => XS.aloadN X0.here hx rfl (hb hby own_d_prog_14_method_2_0) rfl rfl k) ?_
  show own_E p e below _ s₁ (mkF m 1 #[rv a1, iv p1] [.ref a1])
  obtain ⟨T1, X1, e1, st1⟩ := getF X0 hx hZ hown (host := "") (Or.inl (own_w hw 18 rfl)) Via.refl e0 F_size_a1 (g := (mkF m 1 #[rv a1, iv p1] [.ref a1])) rfl rfl (hb hby own_d_prog_14_method_2_1)
  refine own_st st1 ?_
  show own_E p e below _ T1 (mkF m 4 #[rv a1, iv p1] [.int 4])
  refine own_st (fun t k => XS.aloadN X1.here hx rfl (hb hby own_d_prog_14_method_2_4) rfl rfl k) ?_
  show own_E p e below _ T1 (mkF m 5 #[rv a1, iv p1] [.ref a1, .int 4])
  obtain ⟨T2, X2, e2, st2⟩ := getF X1 hx hZ hown (host := "") (Or.inl (own_w hw 11 rfl)) Via.refl e1 F_values_a1 (g := (mkF m 5 #[rv a1, iv p1] [.ref a1, .int 4])) rfl rfl (hb hby own_d_prog_14_method_2_5)
  refine own_st st2 ?_
  show own_E p e below _ T2 (mkF m 8 #[rv a1, iv p1] [.ref a2, .int 4])
  refine own_st (own_alen X2 hx hZ e2 V_a2 (g := (mkF m 8 #[rv a1, iv p1] [.ref a2, .int 4])) rfl rfl (hb hby own_d_prog_14_method_2_8)) ?_
  show own_E p e below _ T2 (mkF m 9 #[rv a1, iv p1] [.int 16, .int 4])
  refine own_st (fun t k => XS.icmpYes X2.here hx rfl (pc0 := 9) (pc' := 29) rfl (hb hby own_d_prog_14_method_2_9) rfl (by decide) (by decide) (by decide) k) ?_
  show own_E p e below _ T2 (mkF m 29 #[rv a1, iv p1] [])
  refine own_st (fun t k => XS.aloadN X2.here hx rfl (hb hby own_d_prog_14_method_2_29) rfl rfl k) ?_
  show own_E p e below _ T2 (mkF m 30 #[rv a1, iv p1] [.ref a1])
  obtain ⟨T3, X3, e3, st3⟩ := getF X2 hx hZ hown (host := "") (Or.inl (own_w hw 11 rfl)) Via.refl e2 F_values_a1 (g := (mkF m 30 #[rv a1, iv p1] [.ref a1])) rfl rfl (hb hby own_d_prog_14_method_2_30)
  refine own_st st3 ?_
  show own_E p e below _ T3 (mkF m 33 #[rv a1, iv p1] [.ref a2])
  refine own_st (fun t k => XS.aloadN X3.here hx rfl (hb hby own_d_prog_14_method_2_33) rfl rfl k) ?_
  show own_E p e below _ T3 (mkF m 34 #[rv a1, iv p1] [.ref a1, .ref a2])
  refine own_st (fun t k => XS.dup X3.here hx rfl (hb hby own_d_prog_14_method_2_34) rfl rfl k) ?_
  show own_E p e below _ T3 (mkF m 35 #[rv a1, iv p1] [.ref a1, .ref a1, .ref a2])
  obtain ⟨T4, X4, e4, st4⟩ := getF X3 hx hZ hown (host := "") (Or.inl (own_w hw 18 rfl)) Via.refl e3 F_size_a1 (g := (mkF m 35 #[rv a1, iv p1] [.ref a1, .ref a1, .ref a2])) rfl rfl (hb hby own_d_prog_14_method_2_35)
  refine own_st st4 ?_
  show own_E p e below _ T4 (mkF m 38 #[rv a1, iv p1] [.int 4, .ref a1, .ref a2])
  refine own_st (fun t k => XS.dupX1 X4.here hx rfl (hb hby own_d_prog_14_method_2_38) rfl rfl rfl k) ?_
  show own_E p e below _ T4 (mkF m 39 #[rv a1, iv p1] [.int 4, .ref a1, .int 4, .ref a2])
  refine own_st (fun t k => XS.iconst X4.here hx rfl (hb hby own_d_prog_14_method_2_39) k) ?_
  show own_E p e below _ T4 (mkF m 40 #[rv a1, iv p1] [.int 1, .int 4, .ref a1, .int 4, .ref a2])
  refine own_st (fun t k => XS.iadd X4.here hx rfl (hb hby own_d_prog_14_method_2_40) rfl k) ?_
  show own_E p e below _ T4 (mkF m 41 #[rv a1, iv p1] [.int 5, .ref a1, .int 4, .ref a2])
  obtain ⟨T5, h5, X5, e5, W5, st5⟩ := putF X4 hx hZ hown (host := "") (Or.inl (own_w hw 18 rfl)) Via.refl e4 F_size_a1 E_a1 (Or.inl (own_w hw 19 rfl)) (own_w hw 2 rfl) (ty := .int) (by decide) rfl rfl (g := (mkF m 41 #[rv a1, iv p1] [.int 5, .ref a1, .int 4, .ref a2])) rfl rfl (hb hby own_d_prog_14_method_2_41)
  have N5 := Fr.snoc X5 (Fr.nil n0) g_a1
  have Fw5 := F_size_a1.same W5
  have Z6 := Nat.le_trans Z0 (Keep.of_wr W5).1
  have K7 : Keep h0 _ [a1, a2] := (Keep.refl h0 [a1, a2]).wr W5 (Or.inl (List.mem_of_getElem? (i := 0) rfl))
  refine own_st st5 ?_
  show own_E p e below _ T5 (mkF m 44 #[rv a1, iv p1] [.int 4, .ref a2])
  refine own_st (fun t k => XS.iloadN X5.here hx rfl (hb hby own_d_prog_14_method_2_44) rfl k) ?_
  show own_E p e below _ T5 (mkF m 45 #[rv a1, iv p1] [.int p1, .int 4, .ref a2])
  have B8 := (V_a2.other W5 (Ne.symm ne12))
  obtain ⟨T9, h9, X9, e9, W9, Vw9, st9⟩ := own_ast X5 hx hZ e5 B8 (j := (4 : Int32)) ⟨by decide, by decide⟩ (x := p1) (i := 4) rfl (Nat.le_of_ble_eq_true rfl) (g := (mkF m 45 #[rv a1, iv p1] [.int p1, .int 4, .ref a2])) rfl rfl (hb hby own_d_prog_14_method_2_45)
  have V9 : Arv Z h9 a2 kc1 .int (16 : Int32) [(.int ea0), (.int ea1), (.int ea2), (.int ea3), (.int p1), (.int ea5), (.int ea6), (.int ea7), (.int ea8), (.int ea9), (.int ea10), (.int ea11), (.int ea12), (.int ea13), (.int ea14), (.int ea15)] (.int (0 : Int32)) := Vw9
  have N9 := Fr.snoc X9 N5 g_a2
  have Z10 := Nat.le_trans Z6 (Keep.of_wr W9).1
  have K11 : Keep h0 _ [a1, a2] := K7.wr W9 (Or.inl (List.mem_of_getElem? (i := 1) rfl))
  refine own_st st9 ?_
  show own_E p e below _ T9 (mkF m 46 #[rv a1, iv p1] [])
  refine own_retV X9 hx Bd.notSynchronized Bd.returns (hb hby own_d_prog_14_method_2_46) (by decide) (by decide) ?_
  have B12 := ((E_a1.wr W5).wr W9)
  have B13 := ((F_values_a1.other W5 (Or.inr (slot_ne (Or.inl (own_w hw 12 rfl)) (Or.inl (own_w hw 19 rfl)) (by decide) (t := (.array .int)) (t' := .int) (by decide) (by decide)))).other W9 (Or.inl ne12))
  have B14 := (Fw5.other W9 (Or.inl ne12))
  show own_add4_Q Z a1 a2 kc1 p1 ea0 ea1 ea2 ea3 ea4 ea5 ea6 ea7 ea8 ea9 ea10 ea11 ea12 ea13 ea14 ea15 h0 n0 _ T9.heap _
  rw [e9]
  exact ⟨rfl, N9, K11, B12, B13, B14, V9⟩
def own_add5_Q (Z : State) (a1 : Addr) (a2 : Addr) (kc1 : ClassId) (p1 : Int32) (ea0 : Int32) (ea1 : Int32) (ea2 : Int32) (ea3 : Int32) (ea4 : Int32) (ea5 : Int32) (ea6 : Int32) (ea7 : Int32) (ea8 : Int32) (ea9 : Int32) (ea10 : Int32) (ea11 : Int32) (ea12 : Int32) (ea13 : Int32) (ea14 : Int32) (ea15 : Int32) (h0 : Heap) (n0 : Nat) (v : Option Value) (h : Heap) (L : List Loc) : Prop := v = none ∧ Fr n0 L ∧ Keep h0 h [a1, a2] ∧ Exa Z h a1 "com/example/kalchas/kalchas/IntList" ∧ Fld Z h a1 "com/example/kalchas/kalchas/IntList" "values" "[I" (.ref a2) ∧ Fld Z h a1 "com/example/kalchas/kalchas/IntList" "size" "I" (.int (6 : Int32)) ∧ Arv Z h a2 kc1 .int (16 : Int32) [(.int ea0), (.int ea1), (.int ea2), (.int ea3), (.int ea4), (.int p1), (.int ea6), (.int ea7), (.int ea8), (.int ea9), (.int ea10), (.int ea11), (.int ea12), (.int ea13), (.int ea14), (.int ea15)] (.int (0 : Int32))
theorem own_add5_ef (m : MethodId) (a1 : Addr) (a2 : Addr) (kc1 : ClassId) (p1 : Int32) (ea0 : Int32) (ea1 : Int32) (ea2 : Int32) (ea3 : Int32) (ea4 : Int32) (ea5 : Int32) (ea6 : Int32) (ea7 : Int32) (ea8 : Int32) (ea9 : Int32) (ea10 : Int32) (ea11 : Int32) (ea12 : Int32) (ea13 : Int32) (ea14 : Int32) (ea15 : Int32) : entryFrame m #[(.ref a1), (.int p1)] 2 = mkF m 0 #[.val (.ref a1), .val (.int p1)] [] := by first | (simp [entryFrame, mkF, argsToLocals, Value.category]; done) | rfl
set_option maxRecDepth 65536 in
set_option maxHeartbeats 40000000 in
theorem own_add5 (l : Launch) (Z : State) (a0 : Array Value) (hw : ∀ d ∈ tables_1, d.before a0 Z = true) (ws : List Jvm.Cond) (a1 : Addr) (a2 : Addr) (kc1 : ClassId) (p1 : Int32) (ea0 : Int32) (ea1 : Int32) (ea2 : Int32) (ea3 : Int32) (ea4 : Int32) (ea5 : Int32) (ea6 : Int32) (ea7 : Int32) (ea8 : Int32) (ea9 : Int32) (ea10 : Int32) (ea11 : Int32) (ea12 : Int32) (ea13 : Int32) (ea14 : Int32) (ea15 : Int32) (h0 : Heap) (n0 : Nat) (Z0 : n0 ≤ h0.size) (E_a1 : Exa Z h0 a1 "com/example/kalchas/kalchas/IntList") (F_values_a1 : Fld Z h0 a1 "com/example/kalchas/kalchas/IntList" "values" "[I" (.ref a2)) (F_size_a1 : Fld Z h0 a1 "com/example/kalchas/kalchas/IntList" "size" "I" (.int (5 : Int32))) (V_a2 : Arv Z h0 a2 kc1 .int (16 : Int32) [(.int ea0), (.int ea1), (.int ea2), (.int ea3), (.int ea4), (.int ea5), (.int ea6), (.int ea7), (.int ea8), (.int ea9), (.int ea10), (.int ea11), (.int ea12), (.int ea13), (.int ea14), (.int ea15)] (.int (0 : Int32))) (ne12 : a1 ≠ a2) (g_a1 : n0 ≤ a1) (g_a2 : n0 ≤ a2) :
    MetFree l own_y5 (head1 (Jvm.Cond.code own_y5 prog_14_method_2_code 2 none :: ws) ({ frames := 0, cells := 0, slots := 0, locals := 0 } : Room)) (fun a U => a = #[(.ref a1), (.int p1)] ∧ Z.Warmed39 U.vm ∧ U.heap = h0) (fun _ _ _ _ _ => True) (fun _ U o U' => ∃ v L, o = .returned v ∧ own_add5_Q Z a1 a2 kc1 p1 ea0 ea1 ea2 ea3 ea4 ea5 ea6 ea7 ea8 ea9 ea10 ea11 ea12 ea13 ea14 ea15 h0 n0 v U'.heap L ∧ FrameEnd U o U' L ({ frames := 0, cells := 0, slots := 0, locals := 0 } : Room).cells ({ frames := 0, cells := 0, slots := 0, locals := 0 } : Room).slots) := by
  refine MetFree.of_bodySF (plainFor_of_name own_pn_IntList) hisR ?_
  intro p e s m args below meth c s₁ Bd hml0 hP hK
  obtain ⟨rfl, hZ, hh⟩ := hP
  have hx := Bd.exec
  have hby := Bd.bytes
  have hml : c.maxLocals = 2 := hml0
  have hown : s.vm.findClass "com/example/kalchas/kalchas/IntList" = some m.cls := findClass_of_methodNamed Bd.named
  have hnm := (name_of_methodNamed Bd.named Bd.method).1
  have X0 : Stand p l e ({ frames := 0, cells := 0, slots := 0, locals := 0 } : Room) s m #[(.ref a1), (.int p1)] below meth c s₁ [] 0 0 := Stand.of_body Bd
  have e0 : s₁.heap = h0 := by rw [← hh, Bd.state]; rfl
  show own_E p e below (own_K (own_add5_Q Z a1 a2 kc1 p1 ea0 ea1 ea2 ea3 ea4 ea5 ea6 ea7 ea8 ea9 ea10 ea11 ea12 ea13 ea14 ea15 h0 n0) s ({ frames := 0, cells := 0, slots := 0, locals := 0 } : Room).cells ({ frames := 0, cells := 0, slots := 0, locals := 0 } : Room).slots) s₁ (entryFrame m #[(.ref a1), (.int p1)] 2)
  refine own_pre (own_add5_ef m a1 a2 kc1 p1 ea0 ea1 ea2 ea3 ea4 ea5 ea6 ea7 ea8 ea9 ea10 ea11 ea12 ea13 ea14 ea15) ?_
  show own_E p e below _ s₁ (mkF m 0 #[rv a1, iv p1] [])
  refine own_st (fun t k => XS.aloadN X0.here hx rfl (hb hby own_d_prog_14_method_2_0) rfl rfl k) ?_
  show own_E p e below _ s₁ (mkF m 1 #[rv a1, iv p1] [.ref a1])
  obtain ⟨T1, X1, e1, st1⟩ := getF X0 hx hZ hown (host := "") (Or.inl (own_w hw 18 rfl)) Via.refl e0 F_size_a1 (g := (mkF m 1 #[rv a1, iv p1] [.ref a1])) rfl rfl (hb hby own_d_prog_14_method_2_1)
  refine own_st st1 ?_
  show own_E p e below _ T1 (mkF m 4 #[rv a1, iv p1] [.int 5])
  refine own_st (fun t k => XS.aloadN X1.here hx rfl (hb hby own_d_prog_14_method_2_4) rfl rfl k) ?_
  show own_E p e below _ T1 (mkF m 5 #[rv a1, iv p1] [.ref a1, .int 5])
  obtain ⟨T2, X2, e2, st2⟩ := getF X1 hx hZ hown (host := "") (Or.inl (own_w hw 11 rfl)) Via.refl e1 F_values_a1 (g := (mkF m 5 #[rv a1, iv p1] [.ref a1, .int 5])) rfl rfl (hb hby own_d_prog_14_method_2_5)
  refine own_st st2 ?_
  show own_E p e below _ T2 (mkF m 8 #[rv a1, iv p1] [.ref a2, .int 5])
  refine own_st (own_alen X2 hx hZ e2 V_a2 (g := (mkF m 8 #[rv a1, iv p1] [.ref a2, .int 5])) rfl rfl (hb hby own_d_prog_14_method_2_8)) ?_
  show own_E p e below _ T2 (mkF m 9 #[rv a1, iv p1] [.int 16, .int 5])
  refine own_st (fun t k => XS.icmpYes X2.here hx rfl (pc0 := 9) (pc' := 29) rfl (hb hby own_d_prog_14_method_2_9) rfl (by decide) (by decide) (by decide) k) ?_
  show own_E p e below _ T2 (mkF m 29 #[rv a1, iv p1] [])
  refine own_st (fun t k => XS.aloadN X2.here hx rfl (hb hby own_d_prog_14_method_2_29) rfl rfl k) ?_
  show own_E p e below _ T2 (mkF m 30 #[rv a1, iv p1] [.ref a1])
  obtain ⟨T3, X3, e3, st3⟩ := getF X2 hx hZ hown (host := "") (Or.inl (own_w hw 11 rfl)) Via.refl e2 F_values_a1 (g := (mkF m 30 #[rv a1, iv p1] [.ref a1])) rfl rfl (hb hby own_d_prog_14_method_2_30)
  refine own_st st3 ?_
  show own_E p e below _ T3 (mkF m 33 #[rv a1, iv p1] [.ref a2])
  refine own_st (fun t k => XS.aloadN X3.here hx rfl (hb hby own_d_prog_14_method_2_33) rfl rfl k) ?_
  show own_E p e below _ T3 (mkF m 34 #[rv a1, iv p1] [.ref a1, .ref a2])
  refine own_st (fun t k => XS.dup X3.here hx rfl (hb hby own_d_prog_14_method_2_34) rfl rfl k) ?_
  show own_E p e below _ T3 (mkF m 35 #[rv a1, iv p1] [.ref a1, .ref a1, .ref a2])
  obtain ⟨T4, X4, e4, st4⟩ := getF X3 hx hZ hown (host := "") (Or.inl (own_w hw 18 rfl)) Via.refl e3 F_size_a1 (g := (mkF m 35 #[rv a1, iv p1] [.ref a1, .ref a1, .ref a2])) rfl rfl (hb hby own_d_prog_14_method_2_35)
  refine own_st st4 ?_
  show own_E p e below _ T4 (mkF m 38 #[rv a1, iv p1] [.int 5, .ref a1, .ref a2])
  refine own_st (fun t k => XS.dupX1 X4.here hx rfl (hb hby own_d_prog_14_method_2_38) rfl rfl rfl k) ?_
  show own_E p e below _ T4 (mkF m 39 #[rv a1, iv p1] [.int 5, .ref a1, .int 5, .ref a2])
  refine own_st (fun t k => XS.iconst X4.here hx rfl (hb hby own_d_prog_14_method_2_39) k) ?_
  show own_E p e below _ T4 (mkF m 40 #[rv a1, iv p1] [.int 1, .int 5, .ref a1, .int 5, .ref a2])
  refine own_st (fun t k => XS.iadd X4.here hx rfl (hb hby own_d_prog_14_method_2_40) rfl k) ?_
  show own_E p e below _ T4 (mkF m 41 #[rv a1, iv p1] [.int 6, .ref a1, .int 5, .ref a2])
  obtain ⟨T5, h5, X5, e5, W5, st5⟩ := putF X4 hx hZ hown (host := "") (Or.inl (own_w hw 18 rfl)) Via.refl e4 F_size_a1 E_a1 (Or.inl (own_w hw 19 rfl)) (own_w hw 2 rfl) (ty := .int) (by decide) rfl rfl (g := (mkF m 41 #[rv a1, iv p1] [.int 6, .ref a1, .int 5, .ref a2])) rfl rfl (hb hby own_d_prog_14_method_2_41)
  have N5 := Fr.snoc X5 (Fr.nil n0) g_a1
  have Fw5 := F_size_a1.same W5
  have Z6 := Nat.le_trans Z0 (Keep.of_wr W5).1
  have K7 : Keep h0 _ [a1, a2] := (Keep.refl h0 [a1, a2]).wr W5 (Or.inl (List.mem_of_getElem? (i := 0) rfl))
  refine own_st st5 ?_
  show own_E p e below _ T5 (mkF m 44 #[rv a1, iv p1] [.int 5, .ref a2])
  refine own_st (fun t k => XS.iloadN X5.here hx rfl (hb hby own_d_prog_14_method_2_44) rfl k) ?_
  show own_E p e below _ T5 (mkF m 45 #[rv a1, iv p1] [.int p1, .int 5, .ref a2])
  have B8 := (V_a2.other W5 (Ne.symm ne12))
  obtain ⟨T9, h9, X9, e9, W9, Vw9, st9⟩ := own_ast X5 hx hZ e5 B8 (j := (5 : Int32)) ⟨by decide, by decide⟩ (x := p1) (i := 5) rfl (Nat.le_of_ble_eq_true rfl) (g := (mkF m 45 #[rv a1, iv p1] [.int p1, .int 5, .ref a2])) rfl rfl (hb hby own_d_prog_14_method_2_45)
  have V9 : Arv Z h9 a2 kc1 .int (16 : Int32) [(.int ea0), (.int ea1), (.int ea2), (.int ea3), (.int ea4), (.int p1), (.int ea6), (.int ea7), (.int ea8), (.int ea9), (.int ea10), (.int ea11), (.int ea12), (.int ea13), (.int ea14), (.int ea15)] (.int (0 : Int32)) := Vw9
  have N9 := Fr.snoc X9 N5 g_a2
  have Z10 := Nat.le_trans Z6 (Keep.of_wr W9).1
  have K11 : Keep h0 _ [a1, a2] := K7.wr W9 (Or.inl (List.mem_of_getElem? (i := 1) rfl))
  refine own_st st9 ?_
  show own_E p e below _ T9 (mkF m 46 #[rv a1, iv p1] [])
  refine own_retV X9 hx Bd.notSynchronized Bd.returns (hb hby own_d_prog_14_method_2_46) (by decide) (by decide) ?_
  have B12 := ((E_a1.wr W5).wr W9)
  have B13 := ((F_values_a1.other W5 (Or.inr (slot_ne (Or.inl (own_w hw 12 rfl)) (Or.inl (own_w hw 19 rfl)) (by decide) (t := (.array .int)) (t' := .int) (by decide) (by decide)))).other W9 (Or.inl ne12))
  have B14 := (Fw5.other W9 (Or.inl ne12))
  show own_add5_Q Z a1 a2 kc1 p1 ea0 ea1 ea2 ea3 ea4 ea5 ea6 ea7 ea8 ea9 ea10 ea11 ea12 ea13 ea14 ea15 h0 n0 _ T9.heap _
  rw [e9]
  exact ⟨rfl, N9, K11, B12, B13, B14, V9⟩
def own_add6_Q (Z : State) (a1 : Addr) (a2 : Addr) (kc1 : ClassId) (p1 : Int32) (ea0 : Int32) (ea1 : Int32) (ea2 : Int32) (ea3 : Int32) (ea4 : Int32) (ea5 : Int32) (ea6 : Int32) (ea7 : Int32) (ea8 : Int32) (ea9 : Int32) (ea10 : Int32) (ea11 : Int32) (ea12 : Int32) (ea13 : Int32) (ea14 : Int32) (ea15 : Int32) (h0 : Heap) (n0 : Nat) (v : Option Value) (h : Heap) (L : List Loc) : Prop := v = none ∧ Fr n0 L ∧ Keep h0 h [a1, a2] ∧ Exa Z h a1 "com/example/kalchas/kalchas/IntList" ∧ Fld Z h a1 "com/example/kalchas/kalchas/IntList" "values" "[I" (.ref a2) ∧ Fld Z h a1 "com/example/kalchas/kalchas/IntList" "size" "I" (.int (7 : Int32)) ∧ Arv Z h a2 kc1 .int (16 : Int32) [(.int ea0), (.int ea1), (.int ea2), (.int ea3), (.int ea4), (.int ea5), (.int p1), (.int ea7), (.int ea8), (.int ea9), (.int ea10), (.int ea11), (.int ea12), (.int ea13), (.int ea14), (.int ea15)] (.int (0 : Int32))
theorem own_add6_ef (m : MethodId) (a1 : Addr) (a2 : Addr) (kc1 : ClassId) (p1 : Int32) (ea0 : Int32) (ea1 : Int32) (ea2 : Int32) (ea3 : Int32) (ea4 : Int32) (ea5 : Int32) (ea6 : Int32) (ea7 : Int32) (ea8 : Int32) (ea9 : Int32) (ea10 : Int32) (ea11 : Int32) (ea12 : Int32) (ea13 : Int32) (ea14 : Int32) (ea15 : Int32) : entryFrame m #[(.ref a1), (.int p1)] 2 = mkF m 0 #[.val (.ref a1), .val (.int p1)] [] := by first | (simp [entryFrame, mkF, argsToLocals, Value.category]; done) | rfl
set_option maxRecDepth 65536 in
set_option maxHeartbeats 40000000 in
theorem own_add6 (l : Launch) (Z : State) (a0 : Array Value) (hw : ∀ d ∈ tables_1, d.before a0 Z = true) (ws : List Jvm.Cond) (a1 : Addr) (a2 : Addr) (kc1 : ClassId) (p1 : Int32) (ea0 : Int32) (ea1 : Int32) (ea2 : Int32) (ea3 : Int32) (ea4 : Int32) (ea5 : Int32) (ea6 : Int32) (ea7 : Int32) (ea8 : Int32) (ea9 : Int32) (ea10 : Int32) (ea11 : Int32) (ea12 : Int32) (ea13 : Int32) (ea14 : Int32) (ea15 : Int32) (h0 : Heap) (n0 : Nat) (Z0 : n0 ≤ h0.size) (E_a1 : Exa Z h0 a1 "com/example/kalchas/kalchas/IntList") (F_values_a1 : Fld Z h0 a1 "com/example/kalchas/kalchas/IntList" "values" "[I" (.ref a2)) (F_size_a1 : Fld Z h0 a1 "com/example/kalchas/kalchas/IntList" "size" "I" (.int (6 : Int32))) (V_a2 : Arv Z h0 a2 kc1 .int (16 : Int32) [(.int ea0), (.int ea1), (.int ea2), (.int ea3), (.int ea4), (.int ea5), (.int ea6), (.int ea7), (.int ea8), (.int ea9), (.int ea10), (.int ea11), (.int ea12), (.int ea13), (.int ea14), (.int ea15)] (.int (0 : Int32))) (ne12 : a1 ≠ a2) (g_a1 : n0 ≤ a1) (g_a2 : n0 ≤ a2) :
    MetFree l own_y5 (head1 (Jvm.Cond.code own_y5 prog_14_method_2_code 2 none :: ws) ({ frames := 0, cells := 0, slots := 0, locals := 0 } : Room)) (fun a U => a = #[(.ref a1), (.int p1)] ∧ Z.Warmed39 U.vm ∧ U.heap = h0) (fun _ _ _ _ _ => True) (fun _ U o U' => ∃ v L, o = .returned v ∧ own_add6_Q Z a1 a2 kc1 p1 ea0 ea1 ea2 ea3 ea4 ea5 ea6 ea7 ea8 ea9 ea10 ea11 ea12 ea13 ea14 ea15 h0 n0 v U'.heap L ∧ FrameEnd U o U' L ({ frames := 0, cells := 0, slots := 0, locals := 0 } : Room).cells ({ frames := 0, cells := 0, slots := 0, locals := 0 } : Room).slots) := by
  refine MetFree.of_bodySF (plainFor_of_name own_pn_IntList) hisR ?_
  intro p e s m args below meth c s₁ Bd hml0 hP hK
  obtain ⟨rfl, hZ, hh⟩ := hP
  have hx := Bd.exec
  have hby := Bd.bytes
  have hml : c.maxLocals = 2 := hml0
  have hown : s.vm.findClass "com/example/kalchas/kalchas/IntList" = some m.cls := findClass_of_methodNamed Bd.named
  have hnm := (name_of_methodNamed Bd.named Bd.method).1
  have X0 : Stand p l e ({ frames := 0, cells := 0, slots := 0, locals := 0 } : Room) s m #[(.ref a1), (.int p1)] below meth c s₁ [] 0 0 := Stand.of_body Bd
  have e0 : s₁.heap = h0 := by rw [← hh, Bd.state]; rfl
  show own_E p e below (own_K (own_add6_Q Z a1 a2 kc1 p1 ea0 ea1 ea2 ea3 ea4 ea5 ea6 ea7 ea8 ea9 ea10 ea11 ea12 ea13 ea14 ea15 h0 n0) s ({ frames := 0, cells := 0, slots := 0, locals := 0 } : Room).cells ({ frames := 0, cells := 0, slots := 0, locals := 0 } : Room).slots) s₁ (entryFrame m #[(.ref a1), (.int p1)] 2)
  refine own_pre (own_add6_ef m a1 a2 kc1 p1 ea0 ea1 ea2 ea3 ea4 ea5 ea6 ea7 ea8 ea9 ea10 ea11 ea12 ea13 ea14 ea15) ?_
  show own_E p e below _ s₁ (mkF m 0 #[rv a1, iv p1] [])
  refine own_st (fun t k => XS.aloadN X0.here hx rfl (hb hby own_d_prog_14_method_2_0) rfl rfl k) ?_
  show own_E p e below _ s₁ (mkF m 1 #[rv a1, iv p1] [.ref a1])
  obtain ⟨T1, X1, e1, st1⟩ := getF X0 hx hZ hown (host := "") (Or.inl (own_w hw 18 rfl)) Via.refl e0 F_size_a1 (g := (mkF m 1 #[rv a1, iv p1] [.ref a1])) rfl rfl (hb hby own_d_prog_14_method_2_1)
  refine own_st st1 ?_
  show own_E p e below _ T1 (mkF m 4 #[rv a1, iv p1] [.int 6])
  refine own_st (fun t k => XS.aloadN X1.here hx rfl (hb hby own_d_prog_14_method_2_4) rfl rfl k) ?_
  show own_E p e below _ T1 (mkF m 5 #[rv a1, iv p1] [.ref a1, .int 6])
  obtain ⟨T2, X2, e2, st2⟩ := getF X1 hx hZ hown (host := "") (Or.inl (own_w hw 11 rfl)) Via.refl e1 F_values_a1 (g := (mkF m 5 #[rv a1, iv p1] [.ref a1, .int 6])) rfl rfl (hb hby own_d_prog_14_method_2_5)
  refine own_st st2 ?_
  show own_E p e below _ T2 (mkF m 8 #[rv a1, iv p1] [.ref a2, .int 6])
  refine own_st (own_alen X2 hx hZ e2 V_a2 (g := (mkF m 8 #[rv a1, iv p1] [.ref a2, .int 6])) rfl rfl (hb hby own_d_prog_14_method_2_8)) ?_
  show own_E p e below _ T2 (mkF m 9 #[rv a1, iv p1] [.int 16, .int 6])
  refine own_st (fun t k => XS.icmpYes X2.here hx rfl (pc0 := 9) (pc' := 29) rfl (hb hby own_d_prog_14_method_2_9) rfl (by decide) (by decide) (by decide) k) ?_
  show own_E p e below _ T2 (mkF m 29 #[rv a1, iv p1] [])
  refine own_st (fun t k => XS.aloadN X2.here hx rfl (hb hby own_d_prog_14_method_2_29) rfl rfl k) ?_
  show own_E p e below _ T2 (mkF m 30 #[rv a1, iv p1] [.ref a1])
  obtain ⟨T3, X3, e3, st3⟩ := getF X2 hx hZ hown (host := "") (Or.inl (own_w hw 11 rfl)) Via.refl e2 F_values_a1 (g := (mkF m 30 #[rv a1, iv p1] [.ref a1])) rfl rfl (hb hby own_d_prog_14_method_2_30)
  refine own_st st3 ?_
  show own_E p e below _ T3 (mkF m 33 #[rv a1, iv p1] [.ref a2])
  refine own_st (fun t k => XS.aloadN X3.here hx rfl (hb hby own_d_prog_14_method_2_33) rfl rfl k) ?_
  show own_E p e below _ T3 (mkF m 34 #[rv a1, iv p1] [.ref a1, .ref a2])
  refine own_st (fun t k => XS.dup X3.here hx rfl (hb hby own_d_prog_14_method_2_34) rfl rfl k) ?_
  show own_E p e below _ T3 (mkF m 35 #[rv a1, iv p1] [.ref a1, .ref a1, .ref a2])
  obtain ⟨T4, X4, e4, st4⟩ := getF X3 hx hZ hown (host := "") (Or.inl (own_w hw 18 rfl)) Via.refl e3 F_size_a1 (g := (mkF m 35 #[rv a1, iv p1] [.ref a1, .ref a1, .ref a2])) rfl rfl (hb hby own_d_prog_14_method_2_35)
  refine own_st st4 ?_
  show own_E p e below _ T4 (mkF m 38 #[rv a1, iv p1] [.int 6, .ref a1, .ref a2])
  refine own_st (fun t k => XS.dupX1 X4.here hx rfl (hb hby own_d_prog_14_method_2_38) rfl rfl rfl k) ?_
  show own_E p e below _ T4 (mkF m 39 #[rv a1, iv p1] [.int 6, .ref a1, .int 6, .ref a2])
  refine own_st (fun t k => XS.iconst X4.here hx rfl (hb hby own_d_prog_14_method_2_39) k) ?_
  show own_E p e below _ T4 (mkF m 40 #[rv a1, iv p1] [.int 1, .int 6, .ref a1, .int 6, .ref a2])
  refine own_st (fun t k => XS.iadd X4.here hx rfl (hb hby own_d_prog_14_method_2_40) rfl k) ?_
  show own_E p e below _ T4 (mkF m 41 #[rv a1, iv p1] [.int 7, .ref a1, .int 6, .ref a2])
  obtain ⟨T5, h5, X5, e5, W5, st5⟩ := putF X4 hx hZ hown (host := "") (Or.inl (own_w hw 18 rfl)) Via.refl e4 F_size_a1 E_a1 (Or.inl (own_w hw 19 rfl)) (own_w hw 2 rfl) (ty := .int) (by decide) rfl rfl (g := (mkF m 41 #[rv a1, iv p1] [.int 7, .ref a1, .int 6, .ref a2])) rfl rfl (hb hby own_d_prog_14_method_2_41)
  have N5 := Fr.snoc X5 (Fr.nil n0) g_a1
  have Fw5 := F_size_a1.same W5
  have Z6 := Nat.le_trans Z0 (Keep.of_wr W5).1
  have K7 : Keep h0 _ [a1, a2] := (Keep.refl h0 [a1, a2]).wr W5 (Or.inl (List.mem_of_getElem? (i := 0) rfl))
  refine own_st st5 ?_
  show own_E p e below _ T5 (mkF m 44 #[rv a1, iv p1] [.int 6, .ref a2])
  refine own_st (fun t k => XS.iloadN X5.here hx rfl (hb hby own_d_prog_14_method_2_44) rfl k) ?_
  show own_E p e below _ T5 (mkF m 45 #[rv a1, iv p1] [.int p1, .int 6, .ref a2])
  have B8 := (V_a2.other W5 (Ne.symm ne12))
  obtain ⟨T9, h9, X9, e9, W9, Vw9, st9⟩ := own_ast X5 hx hZ e5 B8 (j := (6 : Int32)) ⟨by decide, by decide⟩ (x := p1) (i := 6) rfl (Nat.le_of_ble_eq_true rfl) (g := (mkF m 45 #[rv a1, iv p1] [.int p1, .int 6, .ref a2])) rfl rfl (hb hby own_d_prog_14_method_2_45)
  have V9 : Arv Z h9 a2 kc1 .int (16 : Int32) [(.int ea0), (.int ea1), (.int ea2), (.int ea3), (.int ea4), (.int ea5), (.int p1), (.int ea7), (.int ea8), (.int ea9), (.int ea10), (.int ea11), (.int ea12), (.int ea13), (.int ea14), (.int ea15)] (.int (0 : Int32)) := Vw9
  have N9 := Fr.snoc X9 N5 g_a2
  have Z10 := Nat.le_trans Z6 (Keep.of_wr W9).1
  have K11 : Keep h0 _ [a1, a2] := K7.wr W9 (Or.inl (List.mem_of_getElem? (i := 1) rfl))
  refine own_st st9 ?_
  show own_E p e below _ T9 (mkF m 46 #[rv a1, iv p1] [])
  refine own_retV X9 hx Bd.notSynchronized Bd.returns (hb hby own_d_prog_14_method_2_46) (by decide) (by decide) ?_
  have B12 := ((E_a1.wr W5).wr W9)
  have B13 := ((F_values_a1.other W5 (Or.inr (slot_ne (Or.inl (own_w hw 12 rfl)) (Or.inl (own_w hw 19 rfl)) (by decide) (t := (.array .int)) (t' := .int) (by decide) (by decide)))).other W9 (Or.inl ne12))
  have B14 := (Fw5.other W9 (Or.inl ne12))
  show own_add6_Q Z a1 a2 kc1 p1 ea0 ea1 ea2 ea3 ea4 ea5 ea6 ea7 ea8 ea9 ea10 ea11 ea12 ea13 ea14 ea15 h0 n0 _ T9.heap _
  rw [e9]
  exact ⟨rfl, N9, K11, B12, B13, B14, V9⟩
def own_add7_Q (Z : State) (a1 : Addr) (a2 : Addr) (kc1 : ClassId) (p1 : Int32) (ea0 : Int32) (ea1 : Int32) (ea2 : Int32) (ea3 : Int32) (ea4 : Int32) (ea5 : Int32) (ea6 : Int32) (ea7 : Int32) (ea8 : Int32) (ea9 : Int32) (ea10 : Int32) (ea11 : Int32) (ea12 : Int32) (ea13 : Int32) (ea14 : Int32) (ea15 : Int32) (h0 : Heap) (n0 : Nat) (v : Option Value) (h : Heap) (L : List Loc) : Prop := v = none ∧ Fr n0 L ∧ Keep h0 h [a1, a2] ∧ Exa Z h a1 "com/example/kalchas/kalchas/IntList" ∧ Fld Z h a1 "com/example/kalchas/kalchas/IntList" "values" "[I" (.ref a2) ∧ Fld Z h a1 "com/example/kalchas/kalchas/IntList" "size" "I" (.int (8 : Int32)) ∧ Arv Z h a2 kc1 .int (16 : Int32) [(.int ea0), (.int ea1), (.int ea2), (.int ea3), (.int ea4), (.int ea5), (.int ea6), (.int p1), (.int ea8), (.int ea9), (.int ea10), (.int ea11), (.int ea12), (.int ea13), (.int ea14), (.int ea15)] (.int (0 : Int32))
theorem own_add7_ef (m : MethodId) (a1 : Addr) (a2 : Addr) (kc1 : ClassId) (p1 : Int32) (ea0 : Int32) (ea1 : Int32) (ea2 : Int32) (ea3 : Int32) (ea4 : Int32) (ea5 : Int32) (ea6 : Int32) (ea7 : Int32) (ea8 : Int32) (ea9 : Int32) (ea10 : Int32) (ea11 : Int32) (ea12 : Int32) (ea13 : Int32) (ea14 : Int32) (ea15 : Int32) : entryFrame m #[(.ref a1), (.int p1)] 2 = mkF m 0 #[.val (.ref a1), .val (.int p1)] [] := by first | (simp [entryFrame, mkF, argsToLocals, Value.category]; done) | rfl
set_option maxRecDepth 65536 in
set_option maxHeartbeats 40000000 in
theorem own_add7 (l : Launch) (Z : State) (a0 : Array Value) (hw : ∀ d ∈ tables_1, d.before a0 Z = true) (ws : List Jvm.Cond) (a1 : Addr) (a2 : Addr) (kc1 : ClassId) (p1 : Int32) (ea0 : Int32) (ea1 : Int32) (ea2 : Int32) (ea3 : Int32) (ea4 : Int32) (ea5 : Int32) (ea6 : Int32) (ea7 : Int32) (ea8 : Int32) (ea9 : Int32) (ea10 : Int32) (ea11 : Int32) (ea12 : Int32) (ea13 : Int32) (ea14 : Int32) (ea15 : Int32) (h0 : Heap) (n0 : Nat) (Z0 : n0 ≤ h0.size) (E_a1 : Exa Z h0 a1 "com/example/kalchas/kalchas/IntList") (F_values_a1 : Fld Z h0 a1 "com/example/kalchas/kalchas/IntList" "values" "[I" (.ref a2)) (F_size_a1 : Fld Z h0 a1 "com/example/kalchas/kalchas/IntList" "size" "I" (.int (7 : Int32))) (V_a2 : Arv Z h0 a2 kc1 .int (16 : Int32) [(.int ea0), (.int ea1), (.int ea2), (.int ea3), (.int ea4), (.int ea5), (.int ea6), (.int ea7), (.int ea8), (.int ea9), (.int ea10), (.int ea11), (.int ea12), (.int ea13), (.int ea14), (.int ea15)] (.int (0 : Int32))) (ne12 : a1 ≠ a2) (g_a1 : n0 ≤ a1) (g_a2 : n0 ≤ a2) :
    MetFree l own_y5 (head1 (Jvm.Cond.code own_y5 prog_14_method_2_code 2 none :: ws) ({ frames := 0, cells := 0, slots := 0, locals := 0 } : Room)) (fun a U => a = #[(.ref a1), (.int p1)] ∧ Z.Warmed39 U.vm ∧ U.heap = h0) (fun _ _ _ _ _ => True) (fun _ U o U' => ∃ v L, o = .returned v ∧ own_add7_Q Z a1 a2 kc1 p1 ea0 ea1 ea2 ea3 ea4 ea5 ea6 ea7 ea8 ea9 ea10 ea11 ea12 ea13 ea14 ea15 h0 n0 v U'.heap L ∧ FrameEnd U o U' L ({ frames := 0, cells := 0, slots := 0, locals := 0 } : Room).cells ({ frames := 0, cells := 0, slots := 0, locals := 0 } : Room).slots) := by
  refine MetFree.of_bodySF (plainFor_of_name own_pn_IntList) hisR ?_
  intro p e s m args below meth c s₁ Bd hml0 hP hK
  obtain ⟨rfl, hZ, hh⟩ := hP
  have hx := Bd.exec
  have hby := Bd.bytes
  have hml : c.maxLocals = 2 := hml0
  have hown : s.vm.findClass "com/example/kalchas/kalchas/IntList" = some m.cls := findClass_of_methodNamed Bd.named
  have hnm := (name_of_methodNamed Bd.named Bd.method).1
  have X0 : Stand p l e ({ frames := 0, cells := 0, slots := 0, locals := 0 } : Room) s m #[(.ref a1), (.int p1)] below meth c s₁ [] 0 0 := Stand.of_body Bd
  have e0 : s₁.heap = h0 := by rw [← hh, Bd.state]; rfl
  show own_E p e below (own_K (own_add7_Q Z a1 a2 kc1 p1 ea0 ea1 ea2 ea3 ea4 ea5 ea6 ea7 ea8 ea9 ea10 ea11 ea12 ea13 ea14 ea15 h0 n0) s ({ frames := 0, cells := 0, slots := 0, locals := 0 } : Room).cells ({ frames := 0, cells := 0, slots := 0, locals := 0 } : Room).slots) s₁ (entryFrame m #[(.ref a1), (.int p1)] 2)
  refine own_pre (own_add7_ef m a1 a2 kc1 p1 ea0 ea1 ea2 ea3 ea4 ea5 ea6 ea7 ea8 ea9 ea10 ea11 ea12 ea13 ea14 ea15) ?_
  show own_E p e below _ s₁ (mkF m 0 #[rv a1, iv p1] [])
  refine own_st (fun t k => XS.aloadN X0.here hx rfl (hb hby own_d_prog_14_method_2_0) rfl rfl k) ?_
  show own_E p e below _ s₁ (mkF m 1 #[rv a1, iv p1] [.ref a1])
  obtain ⟨T1, X1, e1, st1⟩ := getF X0 hx hZ hown (host := "") (Or.inl (own_w hw 18 rfl)) Via.refl e0 F_size_a1 (g := (mkF m 1 #[rv a1, iv p1] [.ref a1])) rfl rfl (hb hby own_d_prog_14_method_2_1)
  refine own_st st1 ?_
  show own_E p e below _ T1 (mkF m 4 #[rv a1, iv p1] [.int 7])
  refine own_st (fun t k => XS.aloadN X1.here hx rfl (hb hby own_d_prog_14_method_2_4) rfl rfl k) ?_
  show own_E p e below _ T1 (mkF m 5 #[rv a1, iv p1] [.ref a1, .int 7])
  obtain ⟨T2, X2, e2, st2⟩ := getF X1 hx hZ hown (host := "") (Or.inl (own_w hw 11 rfl)) Via.refl e1 F_values_a1 (g := (mkF m 5 #[rv a1, iv p1] [.ref a1, .int 7])) rfl rfl (hb hby own_d_prog_14_method_2_5)
  refine own_st st2 ?_
  show own_E p e below _ T2 (mkF m 8 #[rv a1, iv p1] [.ref a2, .int 7])
  refine own_st (own_alen X2 hx hZ e2 V_a2 (g := (mkF m 8 #[rv a1, iv p1] [.ref a2, .int 7])) rfl rfl (hb hby own_d_prog_14_method_2_8)) ?_
  show own_E p e below _ T2 (mkF m 9 #[rv a1, iv p1] [.int 16, .int 7])
  refine own_st (fun t k => XS.icmpYes X2.here hx rfl (pc0 := 9) (pc' := 29) rfl (hb hby own_d_prog_14_method_2_9) rfl (by decide) (by decide) (by decide) k) ?_
  show own_E p e below _ T2 (mkF m 29 #[rv a1, iv p1] [])
  refine own_st (fun t k => XS.aloadN X2.here hx rfl (hb hby own_d_prog_14_method_2_29) rfl rfl k) ?_
  show own_E p e below _ T2 (mkF m 30 #[rv a1, iv p1] [.ref a1])
  obtain ⟨T3, X3, e3, st3⟩ := getF X2 hx hZ hown (host := "") (Or.inl (own_w hw 11 rfl)) Via.refl e2 F_values_a1 (g := (mkF m 30 #[rv a1, iv p1] [.ref a1])) rfl rfl (hb hby own_d_prog_14_method_2_30)
  refine own_st st3 ?_
  show own_E p e below _ T3 (mkF m 33 #[rv a1, iv p1] [.ref a2])
  refine own_st (fun t k => XS.aloadN X3.here hx rfl (hb hby own_d_prog_14_method_2_33) rfl rfl k) ?_
  show own_E p e below _ T3 (mkF m 34 #[rv a1, iv p1] [.ref a1, .ref a2])
  refine own_st (fun t k => XS.dup X3.here hx rfl (hb hby own_d_prog_14_method_2_34) rfl rfl k) ?_
  show own_E p e below _ T3 (mkF m 35 #[rv a1, iv p1] [.ref a1, .ref a1, .ref a2])
  obtain ⟨T4, X4, e4, st4⟩ := getF X3 hx hZ hown (host := "") (Or.inl (own_w hw 18 rfl)) Via.refl e3 F_size_a1 (g := (mkF m 35 #[rv a1, iv p1] [.ref a1, .ref a1, .ref a2])) rfl rfl (hb hby own_d_prog_14_method_2_35)
  refine own_st st4 ?_
  show own_E p e below _ T4 (mkF m 38 #[rv a1, iv p1] [.int 7, .ref a1, .ref a2])
  refine own_st (fun t k => XS.dupX1 X4.here hx rfl (hb hby own_d_prog_14_method_2_38) rfl rfl rfl k) ?_
  show own_E p e below _ T4 (mkF m 39 #[rv a1, iv p1] [.int 7, .ref a1, .int 7, .ref a2])
  refine own_st (fun t k => XS.iconst X4.here hx rfl (hb hby own_d_prog_14_method_2_39) k) ?_
  show own_E p e below _ T4 (mkF m 40 #[rv a1, iv p1] [.int 1, .int 7, .ref a1, .int 7, .ref a2])
  refine own_st (fun t k => XS.iadd X4.here hx rfl (hb hby own_d_prog_14_method_2_40) rfl k) ?_
  show own_E p e below _ T4 (mkF m 41 #[rv a1, iv p1] [.int 8, .ref a1, .int 7, .ref a2])
  obtain ⟨T5, h5, X5, e5, W5, st5⟩ := putF X4 hx hZ hown (host := "") (Or.inl (own_w hw 18 rfl)) Via.refl e4 F_size_a1 E_a1 (Or.inl (own_w hw 19 rfl)) (own_w hw 2 rfl) (ty := .int) (by decide) rfl rfl (g := (mkF m 41 #[rv a1, iv p1] [.int 8, .ref a1, .int 7, .ref a2])) rfl rfl (hb hby own_d_prog_14_method_2_41)
  have N5 := Fr.snoc X5 (Fr.nil n0) g_a1
  have Fw5 := F_size_a1.same W5
  have Z6 := Nat.le_trans Z0 (Keep.of_wr W5).1
  have K7 : Keep h0 _ [a1, a2] := (Keep.refl h0 [a1, a2]).wr W5 (Or.inl (List.mem_of_getElem? (i := 0) rfl))
  refine own_st st5 ?_
  show own_E p e below _ T5 (mkF m 44 #[rv a1, iv p1] [.int 7, .ref a2])
  refine own_st (fun t k => XS.iloadN X5.here hx rfl (hb hby own_d_prog_14_method_2_44) rfl k) ?_
  show own_E p e below _ T5 (mkF m 45 #[rv a1, iv p1] [.int p1, .int 7, .ref a2])
  have B8 := (V_a2.other W5 (Ne.symm ne12))
  obtain ⟨T9, h9, X9, e9, W9, Vw9, st9⟩ := own_ast X5 hx hZ e5 B8 (j := (7 : Int32)) ⟨by decide, by decide⟩ (x := p1) (i := 7) rfl (Nat.le_of_ble_eq_true rfl) (g := (mkF m 45 #[rv a1, iv p1] [.int p1, .int 7, .ref a2])) rfl rfl (hb hby own_d_prog_14_method_2_45)
  have V9 : Arv Z h9 a2 kc1 .int (16 : Int32) [(.int ea0), (.int ea1), (.int ea2), (.int ea3), (.int ea4), (.int ea5), (.int ea6), (.int p1), (.int ea8), (.int ea9), (.int ea10), (.int ea11), (.int ea12), (.int ea13), (.int ea14), (.int ea15)] (.int (0 : Int32)) := Vw9
  have N9 := Fr.snoc X9 N5 g_a2
  have Z10 := Nat.le_trans Z6 (Keep.of_wr W9).1
  have K11 : Keep h0 _ [a1, a2] := K7.wr W9 (Or.inl (List.mem_of_getElem? (i := 1) rfl))
  refine own_st st9 ?_
  show own_E p e below _ T9 (mkF m 46 #[rv a1, iv p1] [])
  refine own_retV X9 hx Bd.notSynchronized Bd.returns (hb hby own_d_prog_14_method_2_46) (by decide) (by decide) ?_
  have B12 := ((E_a1.wr W5).wr W9)
  have B13 := ((F_values_a1.other W5 (Or.inr (slot_ne (Or.inl (own_w hw 12 rfl)) (Or.inl (own_w hw 19 rfl)) (by decide) (t := (.array .int)) (t' := .int) (by decide) (by decide)))).other W9 (Or.inl ne12))
  have B14 := (Fw5.other W9 (Or.inl ne12))
  show own_add7_Q Z a1 a2 kc1 p1 ea0 ea1 ea2 ea3 ea4 ea5 ea6 ea7 ea8 ea9 ea10 ea11 ea12 ea13 ea14 ea15 h0 n0 _ T9.heap _
  rw [e9]
  exact ⟨rfl, N9, K11, B12, B13, B14, V9⟩
def own_add8_Q (Z : State) (a1 : Addr) (a2 : Addr) (kc1 : ClassId) (p1 : Int32) (ea0 : Int32) (ea1 : Int32) (ea2 : Int32) (ea3 : Int32) (ea4 : Int32) (ea5 : Int32) (ea6 : Int32) (ea7 : Int32) (ea8 : Int32) (ea9 : Int32) (ea10 : Int32) (ea11 : Int32) (ea12 : Int32) (ea13 : Int32) (ea14 : Int32) (ea15 : Int32) (h0 : Heap) (n0 : Nat) (v : Option Value) (h : Heap) (L : List Loc) : Prop := v = none ∧ Fr n0 L ∧ Keep h0 h [a1, a2] ∧ Exa Z h a1 "com/example/kalchas/kalchas/IntList" ∧ Fld Z h a1 "com/example/kalchas/kalchas/IntList" "values" "[I" (.ref a2) ∧ Fld Z h a1 "com/example/kalchas/kalchas/IntList" "size" "I" (.int (9 : Int32)) ∧ Arv Z h a2 kc1 .int (16 : Int32) [(.int ea0), (.int ea1), (.int ea2), (.int ea3), (.int ea4), (.int ea5), (.int ea6), (.int ea7), (.int p1), (.int ea9), (.int ea10), (.int ea11), (.int ea12), (.int ea13), (.int ea14), (.int ea15)] (.int (0 : Int32))
theorem own_add8_ef (m : MethodId) (a1 : Addr) (a2 : Addr) (kc1 : ClassId) (p1 : Int32) (ea0 : Int32) (ea1 : Int32) (ea2 : Int32) (ea3 : Int32) (ea4 : Int32) (ea5 : Int32) (ea6 : Int32) (ea7 : Int32) (ea8 : Int32) (ea9 : Int32) (ea10 : Int32) (ea11 : Int32) (ea12 : Int32) (ea13 : Int32) (ea14 : Int32) (ea15 : Int32) : entryFrame m #[(.ref a1), (.int p1)] 2 = mkF m 0 #[.val (.ref a1), .val (.int p1)] [] := by first | (simp [entryFrame, mkF, argsToLocals, Value.category]; done) | rfl
set_option maxRecDepth 65536 in
set_option maxHeartbeats 40000000 in
theorem own_add8 (l : Launch) (Z : State) (a0 : Array Value) (hw : ∀ d ∈ tables_1, d.before a0 Z = true) (ws : List Jvm.Cond) (a1 : Addr) (a2 : Addr) (kc1 : ClassId) (p1 : Int32) (ea0 : Int32) (ea1 : Int32) (ea2 : Int32) (ea3 : Int32) (ea4 : Int32) (ea5 : Int32) (ea6 : Int32) (ea7 : Int32) (ea8 : Int32) (ea9 : Int32) (ea10 : Int32) (ea11 : Int32) (ea12 : Int32) (ea13 : Int32) (ea14 : Int32) (ea15 : Int32) (h0 : Heap) (n0 : Nat) (Z0 : n0 ≤ h0.size) (E_a1 : Exa Z h0 a1 "com/example/kalchas/kalchas/IntList") (F_values_a1 : Fld Z h0 a1 "com/example/kalchas/kalchas/IntList" "values" "[I" (.ref a2)) (F_size_a1 : Fld Z h0 a1 "com/example/kalchas/kalchas/IntList" "size" "I" (.int (8 : Int32))) (V_a2 : Arv Z h0 a2 kc1 .int (16 : Int32) [(.int ea0), (.int ea1), (.int ea2), (.int ea3), (.int ea4), (.int ea5), (.int ea6), (.int ea7), (.int ea8), (.int ea9), (.int ea10), (.int ea11), (.int ea12), (.int ea13), (.int ea14), (.int ea15)] (.int (0 : Int32))) (ne12 : a1 ≠ a2) (g_a1 : n0 ≤ a1) (g_a2 : n0 ≤ a2) :
    MetFree l own_y5 (head1 (Jvm.Cond.code own_y5 prog_14_method_2_code 2 none :: ws) ({ frames := 0, cells := 0, slots := 0, locals := 0 } : Room)) (fun a U => a = #[(.ref a1), (.int p1)] ∧ Z.Warmed39 U.vm ∧ U.heap = h0) (fun _ _ _ _ _ => True) (fun _ U o U' => ∃ v L, o = .returned v ∧ own_add8_Q Z a1 a2 kc1 p1 ea0 ea1 ea2 ea3 ea4 ea5 ea6 ea7 ea8 ea9 ea10 ea11 ea12 ea13 ea14 ea15 h0 n0 v U'.heap L ∧ FrameEnd U o U' L ({ frames := 0, cells := 0, slots := 0, locals := 0 } : Room).cells ({ frames := 0, cells := 0, slots := 0, locals := 0 } : Room).slots) := by
  refine MetFree.of_bodySF (plainFor_of_name own_pn_IntList) hisR ?_
  intro p e s m args below meth c s₁ Bd hml0 hP hK
  obtain ⟨rfl, hZ, hh⟩ := hP
  have hx := Bd.exec
  have hby := Bd.bytes
  have hml : c.maxLocals = 2 := hml0
  have hown : s.vm.findClass "com/example/kalchas/kalchas/IntList" = some m.cls := findClass_of_methodNamed Bd.named
  have hnm := (name_of_methodNamed Bd.named Bd.method).1
  have X0 : Stand p l e ({ frames := 0, cells := 0, slots := 0, locals := 0 } : Room) s m #[(.ref a1), (.int p1)] below meth c s₁ [] 0 0 := Stand.of_body Bd
  have e0 : s₁.heap = h0 := by rw [← hh, Bd.state]; rfl
  show own_E p e below (own_K (own_add8_Q Z a1 a2 kc1 p1 ea0 ea1 ea2 ea3 ea4 ea5 ea6 ea7 ea8 ea9 ea10 ea11 ea12 ea13 ea14 ea15 h0 n0) s ({ frames := 0, cells := 0, slots := 0, locals := 0 } : Room).cells ({ frames := 0, cells := 0, slots := 0, locals := 0 } : Room).slots) s₁ (entryFrame m #[(.ref a1), (.int p1)] 2)
  refine own_pre (own_add8_ef m a1 a2 kc1 p1 ea0 ea1 ea2 ea3 ea4 ea5 ea6 ea7 ea8 ea9 ea10 ea11 ea12 ea13 ea14 ea15) ?_
  show own_E p e below _ s₁ (mkF m 0 #[rv a1, iv p1] [])
  refine own_st (fun t k => XS.aloadN X0.here hx rfl (hb hby own_d_prog_14_method_2_0) rfl rfl k) ?_
  show own_E p e below _ s₁ (mkF m 1 #[rv a1, iv p1] [.ref a1])
  obtain ⟨T1, X1, e1, st1⟩ := getF X0 hx hZ hown (host := "") (Or.inl (own_w hw 18 rfl)) Via.refl e0 F_size_a1 (g := (mkF m 1 #[rv a1, iv p1] [.ref a1])) rfl rfl (hb hby own_d_prog_14_method_2_1)
  refine own_st st1 ?_
  show own_E p e below _ T1 (mkF m 4 #[rv a1, iv p1] [.int 8])
  refine own_st (fun t k => XS.aloadN X1.here hx rfl (hb hby own_d_prog_14_method_2_4) rfl rfl k) ?_
  show own_E p e below _ T1 (mkF m 5 #[rv a1, iv p1] [.ref a1, .int 8])
  obtain ⟨T2, X2, e2, st2⟩ := getF X1 hx hZ hown (host := "") (Or.inl (own_w hw 11 rfl)) Via.refl e1 F_values_a1 (g := (mkF m 5 #[rv a1, iv p1] [.ref a1, .int 8])) rfl rfl (hb hby own_d_prog_14_method_2_5)
  refine own_st st2 ?_
  show own_E p e below _ T2 (mkF m 8 #[rv a1, iv p1] [.ref a2, .int 8])
  refine own_st (own_alen X2 hx hZ e2 V_a2 (g := (mkF m 8 #[rv a1, iv p1] [.ref a2, .int 8])) rfl rfl (hb hby own_d_prog_14_method_2_8)) ?_
  show own_E p e below _ T2 (mkF m 9 #[rv a1, iv p1] [.int 16, .int 8])
  refine own_st (fun t k => XS.icmpYes X2.here hx rfl (pc0 := 9) (pc' := 29) rfl (hb hby own_d_prog_14_method_2_9) rfl (by decide) (by decide) (by decide) k) ?_
  show own_E p e below _ T2 (mkF m 29 #[rv a1, iv p1] [])
  refine own_st (fun t k => XS.aloadN X2.here hx rfl (hb hby own_d_prog_14_method_2_29) rfl rfl k) ?_
  show own_E p e below _ T2 (mkF m 30 #[rv a1, iv p1] [.ref a1])
  obtain ⟨T3, X3, e3, st3⟩ := getF X2 hx hZ hown (host := "") (Or.inl (own_w hw 11 rfl)) Via.refl e2 F_values_a1 (g := (mkF m 30 #[rv a1, iv p1] [.ref a1])) rfl rfl (hb hby own_d_prog_14_method_2_30)
  refine own_st st3 ?_
  show own_E p e below _ T3 (mkF m 33 #[rv a1, iv p1] [.ref a2])
  refine own_st (fun t k => XS.aloadN X3.here hx rfl (hb hby own_d_prog_14_method_2_33) rfl rfl k) ?_
  show own_E p e below _ T3 (mkF m 34 #[rv a1, iv p1] [.ref a1, .ref a2])
  refine own_st (fun t k => XS.dup X3.here hx rfl (hb hby own_d_prog_14_method_2_34) rfl rfl k) ?_
  show own_E p e below _ T3 (mkF m 35 #[rv a1, iv p1] [.ref a1, .ref a1, .ref a2])
  obtain ⟨T4, X4, e4, st4⟩ := getF X3 hx hZ hown (host := "") (Or.inl (own_w hw 18 rfl)) Via.refl e3 F_size_a1 (g := (mkF m 35 #[rv a1, iv p1] [.ref a1, .ref a1, .ref a2])) rfl rfl (hb hby own_d_prog_14_method_2_35)
  refine own_st st4 ?_
  show own_E p e below _ T4 (mkF m 38 #[rv a1, iv p1] [.int 8, .ref a1, .ref a2])
  refine own_st (fun t k => XS.dupX1 X4.here hx rfl (hb hby own_d_prog_14_method_2_38) rfl rfl rfl k) ?_
  show own_E p e below _ T4 (mkF m 39 #[rv a1, iv p1] [.int 8, .ref a1, .int 8, .ref a2])
  refine own_st (fun t k => XS.iconst X4.here hx rfl (hb hby own_d_prog_14_method_2_39) k) ?_
  show own_E p e below _ T4 (mkF m 40 #[rv a1, iv p1] [.int 1, .int 8, .ref a1, .int 8, .ref a2])
  refine own_st (fun t k => XS.iadd X4.here hx rfl (hb hby own_d_prog_14_method_2_40) rfl k) ?_
  show own_E p e below _ T4 (mkF m 41 #[rv a1, iv p1] [.int 9, .ref a1, .int 8, .ref a2])
  obtain ⟨T5, h5, X5, e5, W5, st5⟩ := putF X4 hx hZ hown (host := "") (Or.inl (own_w hw 18 rfl)) Via.refl e4 F_size_a1 E_a1 (Or.inl (own_w hw 19 rfl)) (own_w hw 2 rfl) (ty := .int) (by decide) rfl rfl (g := (mkF m 41 #[rv a1, iv p1] [.int 9, .ref a1, .int 8, .ref a2])) rfl rfl (hb hby own_d_prog_14_method_2_41)
  have N5 := Fr.snoc X5 (Fr.nil n0) g_a1
  have Fw5 := F_size_a1.same W5
  have Z6 := Nat.le_trans Z0 (Keep.of_wr W5).1
  have K7 : Keep h0 _ [a1, a2] := (Keep.refl h0 [a1, a2]).wr W5 (Or.inl (List.mem_of_getElem? (i := 0) rfl))
  refine own_st st5 ?_
  show own_E p e below _ T5 (mkF m 44 #[rv a1, iv p1] [.int 8, .ref a2])
  refine own_st (fun t k => XS.iloadN X5.here hx rfl (hb hby own_d_prog_14_method_2_44) rfl k) ?_
  show own_E p e below _ T5 (mkF m 45 #[rv a1, iv p1] [.int p1, .int 8, .ref a2])
  have B8 := (V_a2.other W5 (Ne.symm ne12))
  obtain ⟨T9, h9, X9, e9, W9, Vw9, st9⟩ := own_ast X5 hx hZ e5 B8 (j := (8 : Int32)) ⟨by decide, by decide⟩ (x := p1) (i := 8) rfl (Nat.le_of_ble_eq_true rfl) (g := (mkF m 45 #[rv a1, iv p1] [.int p1, .int 8, .ref a2])) rfl rfl (hb hby own_d_prog_14_method_2_45)
  have V9 : Arv Z h9 a2 kc1 .int (16 : Int32) [(.int ea0), (.int ea1), (.int ea2), (.int ea3), (.int ea4), (.int ea5), (.int ea6), (.int ea7), (.int p1), (.int ea9), (.int ea10), (.int ea11), (.int ea12), (.int ea13), (.int ea14), (.int ea15)] (.int (0 : Int32)) := Vw9
  have N9 := Fr.snoc X9 N5 g_a2
  have Z10 := Nat.le_trans Z6 (Keep.of_wr W9).1
  have K11 : Keep h0 _ [a1, a2] := K7.wr W9 (Or.inl (List.mem_of_getElem? (i := 1) rfl))
  refine own_st st9 ?_
  show own_E p e below _ T9 (mkF m 46 #[rv a1, iv p1] [])
  refine own_retV X9 hx Bd.notSynchronized Bd.returns (hb hby own_d_prog_14_method_2_46) (by decide) (by decide) ?_
  have B12 := ((E_a1.wr W5).wr W9)
  have B13 := ((F_values_a1.other W5 (Or.inr (slot_ne (Or.inl (own_w hw 12 rfl)) (Or.inl (own_w hw 19 rfl)) (by decide) (t := (.array .int)) (t' := .int) (by decide) (by decide)))).other W9 (Or.inl ne12))
  have B14 := (Fw5.other W9 (Or.inl ne12))
  show own_add8_Q Z a1 a2 kc1 p1 ea0 ea1 ea2 ea3 ea4 ea5 ea6 ea7 ea8 ea9 ea10 ea11 ea12 ea13 ea14 ea15 h0 n0 _ T9.heap _
  rw [e9]
  exact ⟨rfl, N9, K11, B12, B13, B14, V9⟩
def own_add9_Q (Z : State) (a1 : Addr) (a2 : Addr) (kc1 : ClassId) (p1 : Int32) (ea0 : Int32) (ea1 : Int32) (ea2 : Int32) (ea3 : Int32) (ea4 : Int32) (ea5 : Int32) (ea6 : Int32) (ea7 : Int32) (ea8 : Int32) (ea9 : Int32) (ea10 : Int32) (ea11 : Int32) (ea12 : Int32) (ea13 : Int32) (ea14 : Int32) (ea15 : Int32) (h0 : Heap) (n0 : Nat) (v : Option Value) (h : Heap) (L : List Loc) : Prop := v = none ∧ Fr n0 L ∧ Keep h0 h [a1, a2] ∧ Exa Z h a1 "com/example/kalchas/kalchas/IntList" ∧ Fld Z h a1 "com/example/kalchas/kalchas/IntList" "values" "[I" (.ref a2) ∧ Fld Z h a1 "com/example/kalchas/kalchas/IntList" "size" "I" (.int (10 : Int32)) ∧ Arv Z h a2 kc1 .int (16 : Int32) [(.int ea0), (.int ea1), (.int ea2), (.int ea3), (.int ea4), (.int ea5), (.int ea6), (.int ea7), (.int ea8), (.int p1), (.int ea10), (.int ea11), (.int ea12), (.int ea13), (.int ea14), (.int ea15)] (.int (0 : Int32))
theorem own_add9_ef (m : MethodId) (a1 : Addr) (a2 : Addr) (kc1 : ClassId) (p1 : Int32) (ea0 : Int32) (ea1 : Int32) (ea2 : Int32) (ea3 : Int32) (ea4 : Int32) (ea5 : Int32) (ea6 : Int32) (ea7 : Int32) (ea8 : Int32) (ea9 : Int32) (ea10 : Int32) (ea11 : Int32) (ea12 : Int32) (ea13 : Int32) (ea14 : Int32) (ea15 : Int32) : entryFrame m #[(.ref a1), (.int p1)] 2 = mkF m 0 #[.val (.ref a1), .val (.int p1)] [] := by first | (simp [entryFrame, mkF, argsToLocals, Value.category]; done) | rfl
set_option maxRecDepth 65536 in
set_option maxHeartbeats 40000000 in
theorem own_add9 (l : Launch) (Z : State) (a0 : Array Value) (hw : ∀ d ∈ tables_1, d.before a0 Z = true) (ws : List Jvm.Cond) (a1 : Addr) (a2 : Addr) (kc1 : ClassId) (p1 : Int32) (ea0 : Int32) (ea1 : Int32) (ea2 : Int32) (ea3 : Int32) (ea4 : Int32) (ea5 : Int32) (ea6 : Int32) (ea7 : Int32) (ea8 : Int32) (ea9 : Int32) (ea10 : Int32) (ea11 : Int32) (ea12 : Int32) (ea13 : Int32) (ea14 : Int32) (ea15 : Int32) (h0 : Heap) (n0 : Nat) (Z0 : n0 ≤ h0.size) (E_a1 : Exa Z h0 a1 "com/example/kalchas/kalchas/IntList") (F_values_a1 : Fld Z h0 a1 "com/example/kalchas/kalchas/IntList" "values" "[I" (.ref a2)) (F_size_a1 : Fld Z h0 a1 "com/example/kalchas/kalchas/IntList" "size" "I" (.int (9 : Int32))) (V_a2 : Arv Z h0 a2 kc1 .int (16 : Int32) [(.int ea0), (.int ea1), (.int ea2), (.int ea3), (.int ea4), (.int ea5), (.int ea6), (.int ea7), (.int ea8), (.int ea9), (.int ea10), (.int ea11), (.int ea12), (.int ea13), (.int ea14), (.int ea15)] (.int (0 : Int32))) (ne12 : a1 ≠ a2) (g_a1 : n0 ≤ a1) (g_a2 : n0 ≤ a2) :
    MetFree l own_y5 (head1 (Jvm.Cond.code own_y5 prog_14_method_2_code 2 none :: ws) ({ frames := 0, cells := 0, slots := 0, locals := 0 } : Room)) (fun a U => a = #[(.ref a1), (.int p1)] ∧ Z.Warmed39 U.vm ∧ U.heap = h0) (fun _ _ _ _ _ => True) (fun _ U o U' => ∃ v L, o = .returned v ∧ own_add9_Q Z a1 a2 kc1 p1 ea0 ea1 ea2 ea3 ea4 ea5 ea6 ea7 ea8 ea9 ea10 ea11 ea12 ea13 ea14 ea15 h0 n0 v U'.heap L ∧ FrameEnd U o U' L ({ frames := 0, cells := 0, slots := 0, locals := 0 } : Room).cells ({ frames := 0, cells := 0, slots := 0, locals := 0 } : Room).slots) := by
  refine MetFree.of_bodySF (plainFor_of_name own_pn_IntList) hisR ?_
  intro p e s m args below meth c s₁ Bd hml0 hP hK
  obtain ⟨rfl, hZ, hh⟩ := hP
  have hx := Bd.exec
  have hby := Bd.bytes
  have hml : c.maxLocals = 2 := hml0
  have hown : s.vm.findClass "com/example/kalchas/kalchas/IntList" = some m.cls := findClass_of_methodNamed Bd.named
  have hnm := (name_of_methodNamed Bd.named Bd.method).1
  have X0 : Stand p l e ({ frames := 0, cells := 0, slots := 0, locals := 0 } : Room) s m #[(.ref a1), (.int p1)] below meth c s₁ [] 0 0 := Stand.of_body Bd
  have e0 : s₁.heap = h0 := by rw [← hh, Bd.state]; rfl
  show own_E p e below (own_K (own_add9_Q Z a1 a2 kc1 p1 ea0 ea1 ea2 ea3 ea4 ea5 ea6 ea7 ea8 ea9 ea10 ea11 ea12 ea13 ea14 ea15 h0 n0) s ({ frames := 0, cells := 0, slots := 0, locals := 0 } : Room).cells ({ frames := 0, cells := 0, slots := 0, locals := 0 } : Room).slots) s₁ (entryFrame m #[(.ref a1), (.int p1)] 2)
  refine own_pre (own_add9_ef m a1 a2 kc1 p1 ea0 ea1 ea2 ea3 ea4 ea5 ea6 ea7 ea8 ea9 ea10 ea11 ea12 ea13 ea14 ea15) ?_
  show own_E p e below _ s₁ (mkF m 0 #[rv a1, iv p1] [])
  refine own_st (fun t k => XS.aloadN X0.here hx rfl (hb hby own_d_prog_14_method_2_0) rfl rfl k) ?_
  show own_E p e below _ s₁ (mkF m 1 #[rv a1, iv p1] [.ref a1])
  obtain ⟨T1, X1, e1, st1⟩ := getF X0 hx hZ hown (host := "") (Or.inl (own_w hw 18 rfl)) Via.refl e0 F_size_a1 (g := (mkF m 1 #[rv a1, iv p1] [.ref a1])) rfl rfl (hb hby own_d_prog_14_method_2_1)
  refine own_st st1 ?_
  show own_E p e below _ T1 (mkF m 4 #[rv a1, iv p1] [.int 9])
  refine own_st (fun t k => XS.aloadN X1.here hx rfl (hb hby own_d_prog_14_method_2_4) rfl rfl k) ?_
  show own_E p e below _ T1 (mkF m 5 #[rv a1, iv p1] [.ref a1, .int 9])
  obtain ⟨T2, X2, e2, st2⟩ := getF X1 hx hZ hown (host := "") (Or.inl (own_w hw 11 rfl)) Via.refl e1 F_values_a1 (g := (mkF m 5 #[rv a1, iv p1] [.ref a1, .int 9])) rfl rfl (hb hby own_d_prog_14_method_2_5)
  refine own_st st2 ?_
  show own_E p e below _ T2 (mkF m 8 #[rv a1, iv p1] [.ref a2, .int 9])
  refine own_st (own_alen X2 hx hZ e2 V_a2 (g := (mkF m 8 #[rv a1, iv p1] [.ref a2, .int 9])) rfl rfl (hb hby own_d_prog_14_method_2_8)) ?_
  show own_E p e below _ T2 (mkF m 9 #[rv a1, iv p1] [.int 16, .int 9])
  refine own_st (fun t k => XS.icmpYes X2.here hx rfl (pc0 := 9) (pc' := 29) rfl (hb hby own_d_prog_14_method_2_9) rfl (by decide) (by decide) (by decide) k) ?_
  show own_E p e below _ T2 (mkF m 29 #[rv a1, iv p1] [])
  refine own_st (fun t k => XS.aloadN X2.here hx rfl (hb hby own_d_prog_14_method_2_29) rfl rfl k) ?_
  show own_E p e below _ T2 (mkF m 30 #[rv a1, iv p1] [.ref a1])
  obtain ⟨T3, X3, e3, st3⟩ := getF X2 hx hZ hown (host := "") (Or.inl (own_w hw 11 rfl)) Via.refl e2 F_values_a1 (g := (mkF m 30 #[rv a1, iv p1] [.ref a1])) rfl rfl (hb hby own_d_prog_14_method_2_30)
  refine own_st st3 ?_
  show own_E p e below _ T3 (mkF m 33 #[rv a1, iv p1] [.ref a2])
  refine own_st (fun t k => XS.aloadN X3.here hx rfl (hb hby own_d_prog_14_method_2_33) rfl rfl k) ?_
  show own_E p e below _ T3 (mkF m 34 #[rv a1, iv p1] [.ref a1, .ref a2])
  refine own_st (fun t k => XS.dup X3.here hx rfl (hb hby own_d_prog_14_method_2_34) rfl rfl k) ?_
  show own_E p e below _ T3 (mkF m 35 #[rv a1, iv p1] [.ref a1, .ref a1, .ref a2])
  obtain ⟨T4, X4, e4, st4⟩ := getF X3 hx hZ hown (host := "") (Or.inl (own_w hw 18 rfl)) Via.refl e3 F_size_a1 (g := (mkF m 35 #[rv a1, iv p1] [.ref a1, .ref a1, .ref a2])) rfl rfl (hb hby own_d_prog_14_method_2_35)
  refine own_st st4 ?_
  show own_E p e below _ T4 (mkF m 38 #[rv a1, iv p1] [.int 9, .ref a1, .ref a2])
  refine own_st (fun t k => XS.dupX1 X4.here hx rfl (hb hby own_d_prog_14_method_2_38) rfl rfl rfl k) ?_
  show own_E p e below _ T4 (mkF m 39 #[rv a1, iv p1] [.int 9, .ref a1, .int 9, .ref a2])
  refine own_st (fun t k => XS.iconst X4.here hx rfl (hb hby own_d_prog_14_method_2_39) k) ?_
  show own_E p e below _ T4 (mkF m 40 #[rv a1, iv p1] [.int 1, .int 9, .ref a1, .int 9, .ref a2])
  refine own_st (fun t k => XS.iadd X4.here hx rfl (hb hby own_d_prog_14_method_2_40) rfl k) ?_
  show own_E p e below _ T4 (mkF m 41 #[rv a1, iv p1] [.int 10, .ref a1, .int 9, .ref a2])
  obtain ⟨T5, h5, X5, e5, W5, st5⟩ := putF X4 hx hZ hown (host := "") (Or.inl (own_w hw 18 rfl)) Via.refl e4 F_size_a1 E_a1 (Or.inl (own_w hw 19 rfl)) (own_w hw 2 rfl) (ty := .int) (by decide) rfl rfl (g := (mkF m 41 #[rv a1, iv p1] [.int 10, .ref a1, .int 9, .ref a2])) rfl rfl (hb hby own_d_prog_14_method_2_41)
  have N5 := Fr.snoc X5 (Fr.nil n0) g_a1
  have Fw5 := F_size_a1.same W5
  have Z6 := Nat.le_trans Z0 (Keep.of_wr W5).1
  have K7 : Keep h0 _ [a1, a2] := (Keep.refl h0 [a1, a2]).wr W5 (Or.inl (List.mem_of_getElem? (i := 0) rfl))
  refine own_st st5 ?_
  show own_E p e below _ T5 (mkF m 44 #[rv a1, iv p1] [.int 9, .ref a2])
  refine own_st (fun t k => XS.iloadN X5.here hx rfl (hb hby own_d_prog_14_method_2_44) rfl k) ?_
  show own_E p e below _ T5 (mkF m 45 #[rv a1, iv p1] [.int p1, .int 9, .ref a2])
  have B8 := (V_a2.other W5 (Ne.symm ne12))
  obtain ⟨T9, h9, X9, e9, W9, Vw9, st9⟩ := own_ast X5 hx hZ e5 B8 (j := (9 : Int32)) ⟨by decide, by decide⟩ (x := p1) (i := 9) rfl (Nat.le_of_ble_eq_true rfl) (g := (mkF m 45 #[rv a1, iv p1] [.int p1, .int 9, .ref a2])) rfl rfl (hb hby own_d_prog_14_method_2_45)
  have V9 : Arv Z h9 a2 kc1 .int (16 : Int32) [(.int ea0), (.int ea1), (.int ea2), (.int ea3), (.int ea4), (.int ea5), (.int ea6), (.int ea7), (.int ea8), (.int p1), (.int ea10), (.int ea11), (.int ea12), (.int ea13), (.int ea14), (.int ea15)] (.int (0 : Int32)) := Vw9
  have N9 := Fr.snoc X9 N5 g_a2
  have Z10 := Nat.le_trans Z6 (Keep.of_wr W9).1
  have K11 : Keep h0 _ [a1, a2] := K7.wr W9 (Or.inl (List.mem_of_getElem? (i := 1) rfl))
  refine own_st st9 ?_
  show own_E p e below _ T9 (mkF m 46 #[rv a1, iv p1] [])
  refine own_retV X9 hx Bd.notSynchronized Bd.returns (hb hby own_d_prog_14_method_2_46) (by decide) (by decide) ?_
  have B12 := ((E_a1.wr W5).wr W9)
  have B13 := ((F_values_a1.other W5 (Or.inr (slot_ne (Or.inl (own_w hw 12 rfl)) (Or.inl (own_w hw 19 rfl)) (by decide) (t := (.array .int)) (t' := .int) (by decide) (by decide)))).other W9 (Or.inl ne12))
  have B14 := (Fw5.other W9 (Or.inl ne12))
  show own_add9_Q Z a1 a2 kc1 p1 ea0 ea1 ea2 ea3 ea4 ea5 ea6 ea7 ea8 ea9 ea10 ea11 ea12 ea13 ea14 ea15 h0 n0 _ T9.heap _
  rw [e9]
  exact ⟨rfl, N9, K11, B12, B13, B14, V9⟩
def own_add10_Q (Z : State) (a1 : Addr) (a2 : Addr) (kc1 : ClassId) (p1 : Int32) (ea0 : Int32) (ea1 : Int32) (ea2 : Int32) (ea3 : Int32) (ea4 : Int32) (ea5 : Int32) (ea6 : Int32) (ea7 : Int32) (ea8 : Int32) (ea9 : Int32) (ea10 : Int32) (ea11 : Int32) (ea12 : Int32) (ea13 : Int32) (ea14 : Int32) (ea15 : Int32) (h0 : Heap) (n0 : Nat) (v : Option Value) (h : Heap) (L : List Loc) : Prop := v = none ∧ Fr n0 L ∧ Keep h0 h [a1, a2] ∧ Exa Z h a1 "com/example/kalchas/kalchas/IntList" ∧ Fld Z h a1 "com/example/kalchas/kalchas/IntList" "values" "[I" (.ref a2) ∧ Fld Z h a1 "com/example/kalchas/kalchas/IntList" "size" "I" (.int (11 : Int32)) ∧ Arv Z h a2 kc1 .int (16 : Int32) [(.int ea0), (.int ea1), (.int ea2), (.int ea3), (.int ea4), (.int ea5), (.int ea6), (.int ea7), (.int ea8), (.int ea9), (.int p1), (.int ea11), (.int ea12), (.int ea13), (.int ea14), (.int ea15)] (.int (0 : Int32))
theorem own_add10_ef (m : MethodId) (a1 : Addr) (a2 : Addr) (kc1 : ClassId) (p1 : Int32) (ea0 : Int32) (ea1 : Int32) (ea2 : Int32) (ea3 : Int32) (ea4 : Int32) (ea5 : Int32) (ea6 : Int32) (ea7 : Int32) (ea8 : Int32) (ea9 : Int32) (ea10 : Int32) (ea11 : Int32) (ea12 : Int32) (ea13 : Int32) (ea14 : Int32) (ea15 : Int32) : entryFrame m #[(.ref a1), (.int p1)] 2 = mkF m 0 #[.val (.ref a1), .val (.int p1)] [] := by first | (simp [entryFrame, mkF, argsToLocals, Value.category]; done) | rfl
set_option maxRecDepth 65536 in
set_option maxHeartbeats 40000000 in
theorem own_add10 (l : Launch) (Z : State) (a0 : Array Value) (hw : ∀ d ∈ tables_1, d.before a0 Z = true) (ws : List Jvm.Cond) (a1 : Addr) (a2 : Addr) (kc1 : ClassId) (p1 : Int32) (ea0 : Int32) (ea1 : Int32) (ea2 : Int32) (ea3 : Int32) (ea4 : Int32) (ea5 : Int32) (ea6 : Int32) (ea7 : Int32) (ea8 : Int32) (ea9 : Int32) (ea10 : Int32) (ea11 : Int32) (ea12 : Int32) (ea13 : Int32) (ea14 : Int32) (ea15 : Int32) (h0 : Heap) (n0 : Nat) (Z0 : n0 ≤ h0.size) (E_a1 : Exa Z h0 a1 "com/example/kalchas/kalchas/IntList") (F_values_a1 : Fld Z h0 a1 "com/example/kalchas/kalchas/IntList" "values" "[I" (.ref a2)) (F_size_a1 : Fld Z h0 a1 "com/example/kalchas/kalchas/IntList" "size" "I" (.int (10 : Int32))) (V_a2 : Arv Z h0 a2 kc1 .int (16 : Int32) [(.int ea0), (.int ea1), (.int ea2), (.int ea3), (.int ea4), (.int ea5), (.int ea6), (.int ea7), (.int ea8), (.int ea9), (.int ea10), (.int ea11), (.int ea12), (.int ea13), (.int ea14), (.int ea15)] (.int (0 : Int32))) (ne12 : a1 ≠ a2) (g_a1 : n0 ≤ a1) (g_a2 : n0 ≤ a2) :
    MetFree l own_y5 (head1 (Jvm.Cond.code own_y5 prog_14_method_2_code 2 none :: ws) ({ frames := 0, cells := 0, slots := 0, locals := 0 } : Room)) (fun a U => a = #[(.ref a1), (.int p1)] ∧ Z.Warmed39 U.vm ∧ U.heap = h0) (fun _ _ _ _ _ => True) (fun _ U o U' => ∃ v L, o = .returned v ∧ own_add10_Q Z a1 a2 kc1 p1 ea0 ea1 ea2 ea3 ea4 ea5 ea6 ea7 ea8 ea9 ea10 ea11 ea12 ea13 ea14 ea15 h0 n0 v U'.heap L ∧ FrameEnd U o U' L ({ frames := 0, cells := 0, slots := 0, locals := 0 } : Room).cells ({ frames := 0, cells := 0, slots := 0, locals := 0 } : Room).slots) := by
  refine MetFree.of_bodySF (plainFor_of_name own_pn_IntList) hisR ?_
  intro p e s m args below meth c s₁ Bd hml0 hP hK
  obtain ⟨rfl, hZ, hh⟩ := hP
  have hx := Bd.exec
  have hby := Bd.bytes
  have hml : c.maxLocals = 2 := hml0
  have hown : s.vm.findClass "com/example/kalchas/kalchas/IntList" = some m.cls := findClass_of_methodNamed Bd.named
  have hnm := (name_of_methodNamed Bd.named Bd.method).1
  have X0 : Stand p l e ({ frames := 0, cells := 0, slots := 0, locals := 0 } : Room) s m #[(.ref a1), (.int p1)] below meth c s₁ [] 0 0 := Stand.of_body Bd
  have e0 : s₁.heap = h0 := by rw [← hh, Bd.state]; rfl
  show own_E p e below (own_K (own_add10_Q Z a1 a2 kc1 p1 ea0 ea1 ea2 ea3 ea4 ea5 ea6 ea7 ea8 ea9 ea10 ea11 ea12 ea13 ea14 ea15 h0 n0) s ({ frames := 0, cells := 0, slots := 0, locals := 0 } : Room).cells ({ frames := 0, cells := 0, slots := 0, locals := 0 } : Room).slots) s₁ (entryFrame m #[(.ref a1), (.int p1)] 2)
  refine own_pre (own_add10_ef m a1 a2 kc1 p1 ea0 ea1 ea2 ea3 ea4 ea5 ea6 ea7 ea8 ea9 ea10 ea11 ea12 ea13 ea14 ea15) ?_
  show own_E p e below _ s₁ (mkF m 0 #[rv a1, iv p1] [])
  refine own_st (fun t k => XS.aloadN X0.here hx rfl (hb hby own_d_prog_14_method_2_0) rfl rfl k) ?_
  show own_E p e below _ s₁ (mkF m 1 #[rv a1, iv p1] [.ref a1])
  obtain ⟨T1, X1, e1, st1⟩ := getF X0 hx hZ hown (host := "") (Or.inl (own_w hw 18 rfl)) Via.refl e0 F_size_a1 (g := (mkF m 1 #[rv a1, iv p1] [.ref a1])) rfl rfl (hb hby own_d_prog_14_method_2_1)
  refine own_st st1 ?_
  show own_E p e below _ T1 (mkF m 4 #[rv a1, iv p1] [.int 10])
  refine own_st (fun t k => XS.aloadN X1.here hx rfl (hb hby own_d_prog_14_method_2_4) rfl rfl k) ?_
  show own_E p e below _ T1 (mkF m 5 #[rv a1, iv p1] [.ref a1, .int 10])
  obtain ⟨T2, X2, e2, st2⟩ := getF X1 hx hZ hown (host := "") (Or.inl (own_w hw 11 rfl)) Via.refl e1 F_values_a1 (g := (mkF m 5 #[rv a1, iv p1] [.ref a1, .int 10])) rfl rfl (hb hby own_d_prog_14_method_2_5)
  refine own_st st2 ?_
  show own_E p e below _ T2 (mkF m 8 #[rv a1, iv p1] [.ref a2, .int 10])
  refine own_st (own_alen X2 hx hZ e2 V_a2 (g := (mkF m 8 #[rv a1, iv p1] [.ref a2, .int 10])) rfl rfl (hb hby own_d_prog_14_method_2_8)) ?_
  show own_E p e below _ T2 (mkF m 9 #[rv a1, iv p1] [.int 16, .int 10])
  refine own_st (fun t k => XS.icmpYes X2.here hx rfl (pc0 := 9) (pc' := 29) rfl (hb hby own_d_prog_14_method_2_9) rfl (by decide) (by decide) (by decide) k) ?_
  show own_E p e below _ T2 (mkF m 29 #[rv a1, iv p1] [])
  refine own_st (fun t k => XS.aloadN X2.here hx rfl (hb hby own_d_prog_14_method_2_29) rfl rfl k) ?_
  show own_E p e below _ T2 (mkF m 30 #[rv a1, iv p1] [.ref a1])
  obtain ⟨T3, X3, e3, st3⟩ := getF X2 hx hZ hown (host := "") (Or.inl (own_w hw 11 rfl)) Via.refl e2 F_values_a1 (g := (mkF m 30 #[rv a1, iv p1] [.ref a1])) rfl rfl (hb hby own_d_prog_14_method_2_30)
  refine own_st st3 ?_
  show own_E p e below _ T3 (mkF m 33 #[rv a1, iv p1] [.ref a2])
  refine own_st (fun t k => XS.aloadN X3.here hx rfl (hb hby own_d_prog_14_method_2_33) rfl rfl k) ?_
  show own_E p e below _ T3 (mkF m 34 #[rv a1, iv p1] [.ref a1, .ref a2])
  refine own_st (fun t k => XS.dup X3.here hx rfl (hb hby own_d_prog_14_method_2_34) rfl rfl k) ?_
  show own_E p e below _ T3 (mkF m 35 #[rv a1, iv p1] [.ref a1, .ref a1, .ref a2])
  obtain ⟨T4, X4, e4, st4⟩ := getF X3 hx hZ hown (host := "") (Or.inl (own_w hw 18 rfl)) Via.refl e3 F_size_a1 (g := (mkF m 35 #[rv a1, iv p1] [.ref a1, .ref a1, .ref a2])) rfl rfl (hb hby own_d_prog_14_method_2_35)
  refine own_st st4 ?_
  show own_E p e below _ T4 (mkF m 38 #[rv a1, iv p1] [.int 10, .ref a1, .ref a2])
  refine own_st (fun t k => XS.dupX1 X4.here hx rfl (hb hby own_d_prog_14_method_2_38) rfl rfl rfl k) ?_
  show own_E p e below _ T4 (mkF m 39 #[rv a1, iv p1] [.int 10, .ref a1, .int 10, .ref a2])
  refine own_st (fun t k => XS.iconst X4.here hx rfl (hb hby own_d_prog_14_method_2_39) k) ?_
  show own_E p e below _ T4 (mkF m 40 #[rv a1, iv p1] [.int 1, .int 10, .ref a1, .int 10, .ref a2])
  refine own_st (fun t k => XS.iadd X4.here hx rfl (hb hby own_d_prog_14_method_2_40) rfl k) ?_
  show own_E p e below _ T4 (mkF m 41 #[rv a1, iv p1] [.int 11, .ref a1, .int 10, .ref a2])
  obtain ⟨T5, h5, X5, e5, W5, st5⟩ := putF X4 hx hZ hown (host := "") (Or.inl (own_w hw 18 rfl)) Via.refl e4 F_size_a1 E_a1 (Or.inl (own_w hw 19 rfl)) (own_w hw 2 rfl) (ty := .int) (by decide) rfl rfl (g := (mkF m 41 #[rv a1, iv p1] [.int 11, .ref a1, .int 10, .ref a2])) rfl rfl (hb hby own_d_prog_14_method_2_41)
  have N5 := Fr.snoc X5 (Fr.nil n0) g_a1
  have Fw5 := F_size_a1.same W5
  have Z6 := Nat.le_trans Z0 (Keep.of_wr W5).1
  have K7 : Keep h0 _ [a1, a2] := (Keep.refl h0 [a1, a2]).wr W5 (Or.inl (List.mem_of_getElem? (i := 0) rfl))
  refine own_st st5 ?_
  show own_E p e below _ T5 (mkF m 44 #[rv a1, iv p1] [.int 10, .ref a2])
  refine own_st (fun t k => XS.iloadN X5.here hx rfl (hb hby own_d_prog_14_method_2_44) rfl k) ?_
  show own_E p e below _ T5 (mkF m 45 #[rv a1, iv p1] [.int p1, .int 10, .ref a2])
  have B8 := (V_a2.other W5 (Ne.symm ne12))
  obtain ⟨T9, h9, X9, e9, W9, Vw9, st9⟩ := own_ast X5 hx hZ e5 B8 (j := (10 : Int32)) ⟨by decide, by decide⟩ (x := p1) (i := 10) rfl (Nat.le_of_ble_eq_true rfl) (g := (mkF m 45 #[rv a1, iv p1] [.int p1, .int 10, .ref a2])) rfl rfl (hb hby own_d_prog_14_method_2_45)
  have V9 : Arv Z h9 a2 kc1 .int (16 : Int32) [(.int ea0), (.int ea1), (.int ea2), (.int ea3), (.int ea4), (.int ea5), (.int ea6), (.int ea7), (.int ea8), (.int ea9), (.int p1), (.int ea11), (.int ea12), (.int ea13), (.int ea14), (.int ea15)] (.int (0 : Int32)) := Vw9
  have N9 := Fr.snoc X9 N5 g_a2
  have Z10 := Nat.le_trans Z6 (Keep.of_wr W9).1
  have K11 : Keep h0 _ [a1, a2] := K7.wr W9 (Or.inl (List.mem_of_getElem? (i := 1) rfl))
  refine own_st st9 ?_
  show own_E p e below _ T9 (mkF m 46 #[rv a1, iv p1] [])
  refine own_retV X9 hx Bd.notSynchronized Bd.returns (hb hby own_d_prog_14_method_2_46) (by decide) (by decide) ?_
  have B12 := ((E_a1.wr W5).wr W9)
  have B13 := ((F_values_a1.other W5 (Or.inr (slot_ne (Or.inl (own_w hw 12 rfl)) (Or.inl (own_w hw 19 rfl)) (by decide) (t := (.array .int)) (t' := .int) (by decide) (by decide)))).other W9 (Or.inl ne12))
  have B14 := (Fw5.other W9 (Or.inl ne12))
  show own_add10_Q Z a1 a2 kc1 p1 ea0 ea1 ea2 ea3 ea4 ea5 ea6 ea7 ea8 ea9 ea10 ea11 ea12 ea13 ea14 ea15 h0 n0 _ T9.heap _
  rw [e9]
  exact ⟨rfl, N9, K11, B12, B13, B14, V9⟩
def own_add11_Q (Z : State) (a1 : Addr) (a2 : Addr) (kc1 : ClassId) (p1 : Int32) (ea0 : Int32) (ea1 : Int32) (ea2 : Int32) (ea3 : Int32) (ea4 : Int32) (ea5 : Int32) (ea6 : Int32) (ea7 : Int32) (ea8 : Int32) (ea9 : Int32) (ea10 : Int32) (ea11 : Int32) (ea12 : Int32) (ea13 : Int32) (ea14 : Int32) (ea15 : Int32) (h0 : Heap) (n0 : Nat) (v : Option Value) (h : Heap) (L : List Loc) : Prop := v = none ∧ Fr n0 L ∧ Keep h0 h [a1, a2] ∧ Exa Z h a1 "com/example/kalchas/kalchas/IntList" ∧ Fld Z h a1 "com/example/kalchas/kalchas/IntList" "values" "[I" (.ref a2) ∧ Fld Z h a1 "com/example/kalchas/kalchas/IntList" "size" "I" (.int (12 : Int32)) ∧ Arv Z h a2 kc1 .int (16 : Int32) [(.int ea0), (.int ea1), (.int ea2), (.int ea3), (.int ea4), (.int ea5), (.int ea6), (.int ea7), (.int ea8), (.int ea9), (.int ea10), (.int p1), (.int ea12), (.int ea13), (.int ea14), (.int ea15)] (.int (0 : Int32))
theorem own_add11_ef (m : MethodId) (a1 : Addr) (a2 : Addr) (kc1 : ClassId) (p1 : Int32) (ea0 : Int32) (ea1 : Int32) (ea2 : Int32) (ea3 : Int32) (ea4 : Int32) (ea5 : Int32) (ea6 : Int32) (ea7 : Int32) (ea8 : Int32) (ea9 : Int32) (ea10 : Int32) (ea11 : Int32) (ea12 : Int32) (ea13 : Int32) (ea14 : Int32) (ea15 : Int32) : entryFrame m #[(.ref a1), (.int p1)] 2 = mkF m 0 #[.val (.ref a1), .val (.int p1)] [] := by first | (simp [entryFrame, mkF, argsToLocals, Value.category]; done) | rfl
set_option maxRecDepth 65536 in
set_option maxHeartbeats 40000000 in
theorem own_add11 (l : Launch) (Z : State) (a0 : Array Value) (hw : ∀ d ∈ tables_1, d.before a0 Z = true) (ws : List Jvm.Cond) (a1 : Addr) (a2 : Addr) (kc1 : ClassId) (p1 : Int32) (ea0 : Int32) (ea1 : Int32) (ea2 : Int32) (ea3 : Int32) (ea4 : Int32) (ea5 : Int32) (ea6 : Int32) (ea7 : Int32) (ea8 : Int32) (ea9 : Int32) (ea10 : Int32) (ea11 : Int32) (ea12 : Int32) (ea13 : Int32) (ea14 : Int32) (ea15 : Int32) (h0 : Heap) (n0 : Nat) (Z0 : n0 ≤ h0.size) (E_a1 : Exa Z h0 a1 "com/example/kalchas/kalchas/IntList") (F_values_a1 : Fld Z h0 a1 "com/example/kalchas/kalchas/IntList" "values" "[I" (.ref a2)) (F_size_a1 : Fld Z h0 a1 "com/example/kalchas/kalchas/IntList" "size" "I" (.int (11 : Int32))) (V_a2 : Arv Z h0 a2 kc1 .int (16 : Int32) [(.int ea0), (.int ea1), (.int ea2), (.int ea3), (.int ea4), (.int ea5), (.int ea6), (.int ea7), (.int ea8), (.int ea9), (.int ea10), (.int ea11), (.int ea12), (.int ea13), (.int ea14), (.int ea15)] (.int (0 : Int32))) (ne12 : a1 ≠ a2) (g_a1 : n0 ≤ a1) (g_a2 : n0 ≤ a2) :
    MetFree l own_y5 (head1 (Jvm.Cond.code own_y5 prog_14_method_2_code 2 none :: ws) ({ frames := 0, cells := 0, slots := 0, locals := 0 } : Room)) (fun a U => a = #[(.ref a1), (.int p1)] ∧ Z.Warmed39 U.vm ∧ U.heap = h0) (fun _ _ _ _ _ => True) (fun _ U o U' => ∃ v L, o = .returned v ∧ own_add11_Q Z a1 a2 kc1 p1 ea0 ea1 ea2 ea3 ea4 ea5 ea6 ea7 ea8 ea9 ea10 ea11 ea12 ea13 ea14 ea15 h0 n0 v U'.heap L ∧ FrameEnd U o U' L ({ frames := 0, cells := 0, slots := 0, locals := 0 } : Room).cells ({ frames := 0, cells := 0, slots := 0, locals := 0 } : Room).slots) := by
  refine MetFree.of_bodySF (plainFor_of_name own_pn_IntList) hisR ?_
  intro p e s m args below meth c s₁ Bd hml0 hP hK
  obtain ⟨rfl, hZ, hh⟩ := hP
  have hx := Bd.exec
  have hby := Bd.bytes
  have hml : c.maxLocals = 2 := hml0
  have hown : s.vm.findClass "com/example/kalchas/kalchas/IntList" = some m.cls := findClass_of_methodNamed Bd.named
  have hnm := (name_of_methodNamed Bd.named Bd.method).1
  have X0 : Stand p l e ({ frames := 0, cells := 0, slots := 0, locals := 0 } : Room) s m #[(.ref a1), (.int p1)] below meth c s₁ [] 0 0 := Stand.of_body Bd
  have e0 : s₁.heap = h0 := by rw [← hh, Bd.state]; rfl
  show own_E p e below (own_K (own_add11_Q Z a1 a2 kc1 p1 ea0 ea1 ea2 ea3 ea4 ea5 ea6 ea7 ea8 ea9 ea10 ea11 ea12 ea13 ea14 ea15 h0 n0) s ({ frames := 0, cells := 0, slots := 0, locals := 0 } : Room).cells ({ frames := 0, cells := 0, slots := 0, locals := 0 } : Room).slots) s₁ (entryFrame m #[(.ref a1), (.int p1)] 2)
  refine own_pre (own_add11_ef m a1 a2 kc1 p1 ea0 ea1 ea2 ea3 ea4 ea5 ea6 ea7 ea8 ea9 ea10 ea11 ea12 ea13 ea14 ea15) ?_
  show own_E p e below _ s₁ (mkF m 0 #[rv a1, iv p1] [])
  refine own_st (fun t k => XS.aloadN X0.here hx rfl (hb hby own_d_prog_14_method_2_0) rfl rfl k) ?_
  show own_E p e below _ s₁ (mkF m 1 #[rv a1, iv p1] [.ref a1])
  obtain ⟨T1, X1, e1, st1⟩ := getF X0 hx hZ hown (host := "") (Or.inl (own_w hw 18 rfl)) Via.refl e0 F_size_a1 (g := (mkF m 1 #[rv a1, iv p1] [.ref a1])) rfl rfl (hb hby own_d_prog_14_method_2_1)
  refine own_st st1 ?_
  show own_E p e below _ T1 (mkF m 4 #[rv a1, iv p1] [.int 11])
  refine own_st (fun t k => XS.aloadN X1.here hx rfl (hb hby own_d_prog_14_method_2_4) rfl rfl k) ?_
  show own_E p e below _ T1 (mkF m 5 #[rv a1, iv p1] [.ref a1, .int 11])
  obtain ⟨T2, X2, e2, st2⟩ := getF X1 hx hZ hown (host := "") (Or.inl (own_w hw 11 rfl)) Via.refl e1 F_values_a1 (g := (mkF m 5 #[rv a1, iv p1] [.ref a1, .int 11])) rfl rfl (hb hby own_d_prog_14_method_2_5)
  refine own_st st2 ?_
  show own_E p e below _ T2 (mkF m 8 #[rv a1, iv p1] [.ref a2, .int 11])
  refine own_st (own_alen X2 hx hZ e2 V_a2 (g := (mkF m 8 #[rv a1, iv p1] [.ref a2, .int 11])) rfl rfl (hb hby own_d_prog_14_method_2_8)) ?_
  show own_E p e below _ T2 (mkF m 9 #[rv a1, iv p1] [.int 16, .int 11])
  refine own_st (fun t k => XS.icmpYes X2.here hx rfl (pc0 := 9) (pc' := 29) rfl (hb hby own_d_prog_14_method_2_9) rfl (by decide) (by decide) (by decide) k) ?_
  show own_E p e below _ T2 (mkF m 29 #[rv a1, iv p1] [])
  refine own_st (fun t k => XS.aloadN X2.here hx rfl (hb hby own_d_prog_14_method_2_29) rfl rfl k) ?_
  show own_E p e below _ T2 (mkF m 30 #[rv a1, iv p1] [.ref a1])
  obtain ⟨T3, X3, e3, st3⟩ := getF X2 hx hZ hown (host := "") (Or.inl (own_w hw 11 rfl)) Via.refl e2 F_values_a1 (g := (mkF m 30 #[rv a1, iv p1] [.ref a1])) rfl rfl (hb hby own_d_prog_14_method_2_30)
  refine own_st st3 ?_
  show own_E p e below _ T3 (mkF m 33 #[rv a1, iv p1] [.ref a2])
  refine own_st (fun t k => XS.aloadN X3.here hx rfl (hb hby own_d_prog_14_method_2_33) rfl rfl k) ?_
  show own_E p e below _ T3 (mkF m 34 #[rv a1, iv p1] [.ref a1, .ref a2])
  refine own_st (fun t k => XS.dup X3.here hx rfl (hb hby own_d_prog_14_method_2_34) rfl rfl k) ?_
  show own_E p e below _ T3 (mkF m 35 #[rv a1, iv p1] [.ref a1, .ref a1, .ref a2])
  obtain ⟨T4, X4, e4, st4⟩ := getF X3 hx hZ hown (host := "") (Or.inl (own_w hw 18 rfl)) Via.refl e3 F_size_a1 (g := (mkF m 35 #[rv a1, iv p1] [.ref a1, .ref a1, .ref a2])) rfl rfl (hb hby own_d_prog_14_method_2_35)
  refine own_st st4 ?_
  show own_E p e below _ T4 (mkF m 38 #[rv a1, iv p1] [.int 11, .ref a1, .ref a2])
  refine own_st (fun t k => XS.dupX1 X4.here hx rfl (hb hby own_d_prog_14_method_2_38) rfl rfl rfl k) ?_
  show own_E p e below _ T4 (mkF m 39 #[rv a1, iv p1] [.int 11, .ref a1, .int 11, .ref a2])
  refine own_st (fun t k => XS.iconst X4.here hx rfl (hb hby own_d_prog_14_method_2_39) k) ?_
  show own_E p e below _ T4 (mkF m 40 #[rv a1, iv p1] [.int 1, .int 11, .ref a1, .int 11, .ref a2])
  refine own_st (fun t k => XS.iadd X4.here hx rfl (hb hby own_d_prog_14_method_2_40) rfl k) ?_
  show own_E p e below _ T4 (mkF m 41 #[rv a1, iv p1] [.int 12, .ref a1, .int 11, .ref a2])
  obtain ⟨T5, h5, X5, e5, W5, st5⟩ := putF X4 hx hZ hown (host := "") (Or.inl (own_w hw 18 rfl)) Via.refl e4 F_size_a1 E_a1 (Or.inl (own_w hw 19 rfl)) (own_w hw 2 rfl) (ty := .int) (by decide) rfl rfl (g := (mkF m 41 #[rv a1, iv p1] [.int 12, .ref a1, .int 11, .ref a2])) rfl rfl (hb hby own_d_prog_14_method_2_41)
  have N5 := Fr.snoc X5 (Fr.nil n0) g_a1
  have Fw5 := F_size_a1.same W5
  have Z6 := Nat.le_trans Z0 (Keep.of_wr W5).1
  have K7 : Keep h0 _ [a1, a2] := (Keep.refl h0 [a1, a2]).wr W5 (Or.inl (List.mem_of_getElem? (i := 0) rfl))
  refine own_st st5 ?_
  show own_E p e below _ T5 (mkF m 44 #[rv a1, iv p1] [.int 11, .ref a2])
  refine own_st (fun t k => XS.iloadN X5.here hx rfl (hb hby own_d_prog_14_method_2_44) rfl k) ?_
  show own_E p e below _ T5 (mkF m 45 #[rv a1, iv p1] [.int p1, .int 11, .ref a2])
  have B8 := (V_a2.other W5 (Ne.symm ne12))
  obtain ⟨T9, h9, X9, e9, W9, Vw9, st9⟩ := own_ast X5 hx hZ e5 B8 (j := (11 : Int32)) ⟨by decide, by decide⟩ (x := p1) (i := 11) rfl (Nat.le_of_ble_eq_true rfl) (g := (mkF m 45 #[rv a1, iv p1] [.int p1, .int 11, .ref a2])) rfl rfl (hb hby own_d_prog_14_method_2_45)
  have V9 : Arv Z h9 a2 kc1 .int (16 : Int32) [(.int ea0), (.int ea1), (.int ea2), (.int ea3), (.int ea4), (.int ea5), (.int ea6), (.int ea7), (.int ea8), (.int ea9), (.int ea10), (.int p1), (.int ea12), (.int ea13), (.int ea14), (.int ea15)] (.int (0 : Int32)) := Vw9
  have N9 := Fr.snoc X9 N5 g_a2
  have Z10 := Nat.le_trans Z6 (Keep.of_wr W9).1
  have K11 : Keep h0 _ [a1, a2] := K7.wr W9 (Or.inl (List.mem_of_getElem? (i := 1) rfl))
  refine own_st st9 ?_
  show own_E p e below _ T9 (mkF m 46 #[rv a1, iv p1] [])
  refine own_retV X9 hx Bd.notSynchronized Bd.returns (hb hby own_d_prog_14_method_2_46) (by decide) (by decide) ?_
  have B12 := ((E_a1.wr W5).wr W9)
  have B13 := ((F_values_a1.other W5 (Or.inr (slot_ne (Or.inl (own_w hw 12 rfl)) (Or.inl (own_w hw 19 rfl)) (by decide) (t := (.array .int)) (t' := .int) (by decide) (by decide)))).other W9 (Or.inl ne12))
  have B14 := (Fw5.other W9 (Or.inl ne12))
  show own_add11_Q Z a1 a2 kc1 p1 ea0 ea1 ea2 ea3 ea4 ea5 ea6 ea7 ea8 ea9 ea10 ea11 ea12 ea13 ea14 ea15 h0 n0 _ T9.heap _
  rw [e9]
  exact ⟨rfl, N9, K11, B12, B13, B14, V9⟩
def own_add12_Q (Z : State) (a1 : Addr) (a2 : Addr) (kc1 : ClassId) (p1 : Int32) (ea0 : Int32) (ea1 : Int32) (ea2 : Int32) (ea3 : Int32) (ea4 : Int32) (ea5 : Int32) (ea6 : Int32) (ea7 : Int32) (ea8 : Int32) (ea9 : Int32) (ea10 : Int32) (ea11 : Int32) (ea12 : Int32) (ea13 : Int32) (ea14 : Int32) (ea15 : Int32) (h0 : Heap) (n0 : Nat) (v : Option Value) (h : Heap) (L : List Loc) : Prop := v = none ∧ Fr n0 L ∧ Keep h0 h [a1, a2] ∧ Exa Z h a1 "com/example/kalchas/kalchas/IntList" ∧ Fld Z h a1 "com/example/kalchas/kalchas/IntList" "values" "[I" (.ref a2) ∧ Fld Z h a1 "com/example/kalchas/kalchas/IntList" "size" "I" (.int (13 : Int32)) ∧ Arv Z h a2 kc1 .int (16 : Int32) [(.int ea0), (.int ea1), (.int ea2), (.int ea3), (.int ea4), (.int ea5), (.int ea6), (.int ea7), (.int ea8), (.int ea9), (.int ea10), (.int ea11), (.int p1), (.int ea13), (.int ea14), (.int ea15)] (.int (0 : Int32))
theorem own_add12_ef (m : MethodId) (a1 : Addr) (a2 : Addr) (kc1 : ClassId) (p1 : Int32) (ea0 : Int32) (ea1 : Int32) (ea2 : Int32) (ea3 : Int32) (ea4 : Int32) (ea5 : Int32) (ea6 : Int32) (ea7 : Int32) (ea8 : Int32) (ea9 : Int32) (ea10 : Int32) (ea11 : Int32) (ea12 : Int32) (ea13 : Int32) (ea14 : Int32) (ea15 : Int32) : entryFrame m #[(.ref a1), (.int p1)] 2 = mkF m 0 #[.val (.ref a1), .val (.int p1)] [] := by first | (simp [entryFrame, mkF, argsToLocals, Value.category]; done) | rfl
set_option maxRecDepth 65536 in
set_option maxHeartbeats 40000000 in
theorem own_add12 (l : Launch) (Z : State) (a0 : Array Value) (hw : ∀ d ∈ tables_1, d.before a0 Z = true) (ws : List Jvm.Cond) (a1 : Addr) (a2 : Addr) (kc1 : ClassId) (p1 : Int32) (ea0 : Int32) (ea1 : Int32) (ea2 : Int32) (ea3 : Int32) (ea4 : Int32) (ea5 : Int32) (ea6 : Int32) (ea7 : Int32) (ea8 : Int32) (ea9 : Int32) (ea10 : Int32) (ea11 : Int32) (ea12 : Int32) (ea13 : Int32) (ea14 : Int32) (ea15 : Int32) (h0 : Heap) (n0 : Nat) (Z0 : n0 ≤ h0.size) (E_a1 : Exa Z h0 a1 "com/example/kalchas/kalchas/IntList") (F_values_a1 : Fld Z h0 a1 "com/example/kalchas/kalchas/IntList" "values" "[I" (.ref a2)) (F_size_a1 : Fld Z h0 a1 "com/example/kalchas/kalchas/IntList" "size" "I" (.int (12 : Int32))) (V_a2 : Arv Z h0 a2 kc1 .int (16 : Int32) [(.int ea0), (.int ea1), (.int ea2), (.int ea3), (.int ea4), (.int ea5), (.int ea6), (.int ea7), (.int ea8), (.int ea9), (.int ea10), (.int ea11), (.int ea12), (.int ea13), (.int ea14), (.int ea15)] (.int (0 : Int32))) (ne12 : a1 ≠ a2) (g_a1 : n0 ≤ a1) (g_a2 : n0 ≤ a2) :
    MetFree l own_y5 (head1 (Jvm.Cond.code own_y5 prog_14_method_2_code 2 none :: ws) ({ frames := 0, cells := 0, slots := 0, locals := 0 } : Room)) (fun a U => a = #[(.ref a1), (.int p1)] ∧ Z.Warmed39 U.vm ∧ U.heap = h0) (fun _ _ _ _ _ => True) (fun _ U o U' => ∃ v L, o = .returned v ∧ own_add12_Q Z a1 a2 kc1 p1 ea0 ea1 ea2 ea3 ea4 ea5 ea6 ea7 ea8 ea9 ea10 ea11 ea12 ea13 ea14 ea15 h0 n0 v U'.heap L ∧ FrameEnd U o U' L ({ frames := 0, cells := 0, slots := 0, locals := 0 } : Room).cells ({ frames := 0, cells := 0, slots := 0, locals := 0 } : Room).slots) := by
  refine MetFree.of_bodySF (plainFor_of_name own_pn_IntList) hisR ?_
  intro p e s m args below meth c s₁ Bd hml0 hP hK
  obtain ⟨rfl, hZ, hh⟩ := hP
  have hx := Bd.exec
  have hby := Bd.bytes
  have hml : c.maxLocals = 2 := hml0
  have hown : s.vm.findClass "com/example/kalchas/kalchas/IntList" = some m.cls := findClass_of_methodNamed Bd.named
  have hnm := (name_of_methodNamed Bd.named Bd.method).1
  have X0 : Stand p l e ({ frames := 0, cells := 0, slots := 0, locals := 0 } : Room) s m #[(.ref a1), (.int p1)] below meth c s₁ [] 0 0 := Stand.of_body Bd
  have e0 : s₁.heap = h0 := by rw [← hh, Bd.state]; rfl
  show own_E p e below (own_K (own_add12_Q Z a1 a2 kc1 p1 ea0 ea1 ea2 ea3 ea4 ea5 ea6 ea7 ea8 ea9 ea10 ea11 ea12 ea13 ea14 ea15 h0 n0) s ({ frames := 0, cells := 0, slots := 0, locals := 0 } : Room).cells ({ frames := 0, cells := 0, slots := 0, locals := 0 } : Room).slots) s₁ (entryFrame m #[(.ref a1), (.int p1)] 2)
  refine own_pre (own_add12_ef m a1 a2 kc1 p1 ea0 ea1 ea2 ea3 ea4 ea5 ea6 ea7 ea8 ea9 ea10 ea11 ea12 ea13 ea14 ea15) ?_
  show own_E p e below _ s₁ (mkF m 0 #[rv a1, iv p1] [])
  refine own_st (fun t k => XS.aloadN X0.here hx rfl (hb hby own_d_prog_14_method_2_0) rfl rfl k) ?_
  show own_E p e below _ s₁ (mkF m 1 #[rv a1, iv p1] [.ref a1])
  obtain ⟨T1, X1, e1, st1⟩ := getF X0 hx hZ hown (host := "") (Or.inl (own_w hw 18 rfl)) Via.refl e0 F_size_a1 (g := (mkF m 1 #[rv a1, iv p1] [.ref a1])) rfl rfl (hb hby own_d_prog_14_method_2_1)
  refine own_st st1 ?_
  show own_E p e below _ T1 (mkF m 4 #[rv a1, iv p1] [.int 12])
  refine own_st (fun t k => XS.aloadN X1.here hx rfl (hb hby own_d_prog_14_method_2_4) rfl rfl k) ?_
  show own_E p e below _ T1 (mkF m 5 #[rv a1, iv p1] [.ref a1, .int 12])
  obtain ⟨T2, X2, e2, st2⟩ := getF X1 hx hZ hown (host := "") (Or.inl (own_w hw 11 rfl)) Via.refl e1 F_values_a1 (g := (mkF m 5 #[rv a1, iv p1] [.ref a1, .int 12])) rfl rfl (hb hby own_d_prog_14_method_2_5)
  refine own_st st2 ?_
  show own_E p e below _ T2 (mkF m 8 #[rv a1, iv p1] [.ref a2, .int 12])
  refine own_st (own_alen X2 hx hZ e2 V_a2 (g := (mkF m 8 #[rv a1, iv p1] [.ref a2, .int 12])) rfl rfl (hb hby own_d_prog_14_method_2_8)) ?_
  show own_E p e below _ T2 (mkF m 9 #[rv a1, iv p1] [.int 16, .int 12])
  refine own_st (fun t k => XS.icmpYes X2.here hx rfl (pc0 := 9) (pc' := 29) rfl (hb hby own_d_prog_14_method_2_9) rfl (by decide) (by decide) (by decide) k) ?_
  show own_E p e below _ T2 (mkF m 29 #[rv a1, iv p1] [])
  refine own_st (fun t k => XS.aloadN X2.here hx rfl (hb hby own_d_prog_14_method_2_29) rfl rfl k) ?_
  show own_E p e below _ T2 (mkF m 30 #[rv a1, iv p1] [.ref a1])
  obtain ⟨T3, X3, e3, st3⟩ := getF X2 hx hZ hown (host := "") (Or.inl (own_w hw 11 rfl)) Via.refl e2 F_values_a1 (g := (mkF m 30 #[rv a1, iv p1] [.ref a1])) rfl rfl (hb hby own_d_prog_14_method_2_30)
  refine own_st st3 ?_
  show own_E p e below _ T3 (mkF m 33 #[rv a1, iv p1] [.ref a2])
  refine own_st (fun t k => XS.aloadN X3.here hx rfl (hb hby own_d_prog_14_method_2_33) rfl rfl k) ?_
  show own_E p e below _ T3 (mkF m 34 #[rv a1, iv p1] [.ref a1, .ref a2])
  refine own_st (fun t k => XS.dup X3.here hx rfl (hb hby own_d_prog_14_method_2_34) rfl rfl k) ?_
  show own_E p e below _ T3 (mkF m 35 #[rv a1, iv p1] [.ref a1, .ref a1, .ref a2])
  obtain ⟨T4, X4, e4, st4⟩ := getF X3 hx hZ hown (host := "") (Or.inl (own_w hw 18 rfl)) Via.refl e3 F_size_a1 (g := (mkF m 35 #[rv a1, iv p1] [.ref a1, .ref a1, .ref a2])) rfl rfl (hb hby own_d_prog_14_method_2_35)
  refine own_st st4 ?_
  show own_E p e below _ T4 (mkF m 38 #[rv a1, iv p1] [.int 12, .ref a1, .ref a2])
  refine own_st (fun t k => XS.dupX1 X4.here hx rfl (hb hby own_d_prog_14_method_2_38) rfl rfl rfl k) ?_
  show own_E p e below _ T4 (mkF m 39 #[rv a1, iv p1] [.int 12, .ref a1, .int 12, .ref a2])
  refine own_st (fun t k => XS.iconst X4.here hx rfl (hb hby own_d_prog_14_method_2_39) k) ?_
  show own_E p e below _ T4 (mkF m 40 #[rv a1, iv p1] [.int 1, .int 12, .ref a1, .int 12, .ref a2])
  refine own_st (fun t k => XS.iadd X4.here hx rfl (hb hby own_d_prog_14_method_2_40) rfl k) ?_
  show own_E p e below _ T4 (mkF m 41 #[rv a1, iv p1] [.int 13, .ref a1, .int 12, .ref a2])
  obtain ⟨T5, h5, X5, e5, W5, st5⟩ := putF X4 hx hZ hown (host := "") (Or.inl (own_w hw 18 rfl)) Via.refl e4 F_size_a1 E_a1 (Or.inl (own_w hw 19 rfl)) (own_w hw 2 rfl) (ty := .int) (by decide) rfl rfl (g := (mkF m 41 #[rv a1, iv p1] [.int 13, .ref a1, .int 12, .ref a2])) rfl rfl (hb hby own_d_prog_14_method_2_41)
  have N5 := Fr.snoc X5 (Fr.nil n0) g_a1
  have Fw5 := F_size_a1.same W5
  have Z6 := Nat.le_trans Z0 (Keep.of_wr W5).1
  have K7 : Keep h0 _ [a1, a2] := (Keep.refl h0 [a1, a2]).wr W5 (Or.inl (List.mem_of_getElem? (i := 0) rfl))
  refine own_st st5 ?_
  show own_E p e below _ T5 (mkF m 44 #[rv a1, iv p1] [.int 12, .ref a2])
  refine own_st (fun t k => XS.iloadN X5.here hx rfl (hb hby own_d_prog_14_method_2_44) rfl k) ?_
  show own_E p e below _ T5 (mkF m 45 #[rv a1, iv p1] [.int p1, .int 12, .ref a2])
  have B8 := (V_a2.other W5 (Ne.symm ne12))
  obtain ⟨T9, h9, X9, e9, W9, Vw9, st9⟩ := own_ast X5 hx hZ e5 B8 (j := (12 : Int32)) ⟨by decide, by decide⟩ (x := p1) (i := 12) rfl (Nat.le_of_ble_eq_true rfl) (g := (mkF m 45 #[rv a1, iv p1] [.int p1, .int 12, .ref a2])) rfl rfl (hb hby own_d_prog_14_method_2_45)
  have V9 : Arv Z h9 a2 kc1 .int (16 : Int32) [(.int ea0), (.int ea1), (.int ea2), (.int ea3), (.int ea4), (.int ea5), (.int ea6), (.int ea7), (.int ea8), (.int ea9), (.int ea10), (.int ea11), (.int p1), (.int ea13), (.int ea14), (.int ea15)] (.int (0 : Int32)) := Vw9
  have N9 := Fr.snoc X9 N5 g_a2
  have Z10 := Nat.le_trans Z6 (Keep.of_wr W9).1
  have K11 : Keep h0 _ [a1, a2] := K7.wr W9 (Or.inl (List.mem_of_getElem? (i := 1) rfl))
  refine own_st st9 ?_
  show own_E p e below _ T9 (mkF m 46 #[rv a1, iv p1] [])
  refine own_retV X9 hx Bd.notSynchronized Bd.returns (hb hby own_d_prog_14_method_2_46) (by decide) (by decide) ?_
  have B12 := ((E_a1.wr W5).wr W9)
  have B13 := ((F_values_a1.other W5 (Or.inr (slot_ne (Or.inl (own_w hw 12 rfl)) (Or.inl (own_w hw 19 rfl)) (by decide) (t := (.array .int)) (t' := .int) (by decide) (by decide)))).other W9 (Or.inl ne12))
  have B14 := (Fw5.other W9 (Or.inl ne12))
  show own_add12_Q Z a1 a2 kc1 p1 ea0 ea1 ea2 ea3 ea4 ea5 ea6 ea7 ea8 ea9 ea10 ea11 ea12 ea13 ea14 ea15 h0 n0 _ T9.heap _
  rw [e9]
  exact ⟨rfl, N9, K11, B12, B13, B14, V9⟩
def own_add13_Q (Z : State) (a1 : Addr) (a2 : Addr) (kc1 : ClassId) (p1 : Int32) (ea0 : Int32) (ea1 : Int32) (ea2 : Int32) (ea3 : Int32) (ea4 : Int32) (ea5 : Int32) (ea6 : Int32) (ea7 : Int32) (ea8 : Int32) (ea9 : Int32) (ea10 : Int32) (ea11 : Int32) (ea12 : Int32) (ea13 : Int32) (ea14 : Int32) (ea15 : Int32) (h0 : Heap) (n0 : Nat) (v : Option Value) (h : Heap) (L : List Loc) : Prop := v = none ∧ Fr n0 L ∧ Keep h0 h [a1, a2] ∧ Exa Z h a1 "com/example/kalchas/kalchas/IntList" ∧ Fld Z h a1 "com/example/kalchas/kalchas/IntList" "values" "[I" (.ref a2) ∧ Fld Z h a1 "com/example/kalchas/kalchas/IntList" "size" "I" (.int (14 : Int32)) ∧ Arv Z h a2 kc1 .int (16 : Int32) [(.int ea0), (.int ea1), (.int ea2), (.int ea3), (.int ea4), (.int ea5), (.int ea6), (.int ea7), (.int ea8), (.int ea9), (.int ea10), (.int ea11), (.int ea12), (.int p1), (.int ea14), (.int ea15)] (.int (0 : Int32))
theorem own_add13_ef (m : MethodId) (a1 : Addr) (a2 : Addr) (kc1 : ClassId) (p1 : Int32) (ea0 : Int32) (ea1 : Int32) (ea2 : Int32) (ea3 : Int32) (ea4 : Int32) (ea5 : Int32) (ea6 : Int32) (ea7 : Int32) (ea8 : Int32) (ea9 : Int32) (ea10 : Int32) (ea11 : Int32) (ea12 : Int32) (ea13 : Int32) (ea14 : Int32) (ea15 : Int32) : entryFrame m #[(.ref a1), (.int p1)] 2 = mkF m 0 #[.val (.ref a1), .val (.int p1)] [] := by first | (simp [entryFrame, mkF, argsToLocals, Value.category]; done) | rfl
set_option maxRecDepth 65536 in
set_option maxHeartbeats 40000000 in
theorem own_add13 (l : Launch) (Z : State) (a0 : Array Value) (hw : ∀ d ∈ tables_1, d.before a0 Z = true) (ws : List Jvm.Cond) (a1 : Addr) (a2 : Addr) (kc1 : ClassId) (p1 : Int32) (ea0 : Int32) (ea1 : Int32) (ea2 : Int32) (ea3 : Int32) (ea4 : Int32) (ea5 : Int32) (ea6 : Int32) (ea7 : Int32) (ea8 : Int32) (ea9 : Int32) (ea10 : Int32) (ea11 : Int32) (ea12 : Int32) (ea13 : Int32) (ea14 : Int32) (ea15 : Int32) (h0 : Heap) (n0 : Nat) (Z0 : n0 ≤ h0.size) (E_a1 : Exa Z h0 a1 "com/example/kalchas/kalchas/IntList") (F_values_a1 : Fld Z h0 a1 "com/example/kalchas/kalchas/IntList" "values" "[I" (.ref a2)) (F_size_a1 : Fld Z h0 a1 "com/example/kalchas/kalchas/IntList" "size" "I" (.int (13 : Int32))) (V_a2 : Arv Z h0 a2 kc1 .int (16 : Int32) [(.int ea0), (.int ea1), (.int ea2), (.int ea3), (.int ea4), (.int ea5), (.int ea6), (.int ea7), (.int ea8), (.int ea9), (.int ea10), (.int ea11), (.int ea12), (.int ea13), (.int ea14), (.int ea15)] (.int (0 : Int32))) (ne12 : a1 ≠ a2) (g_a1 : n0 ≤ a1) (g_a2 : n0 ≤ a2) :
    MetFree l own_y5 (head1 (Jvm.Cond.code own_y5 prog_14_method_2_code 2 none :: ws) ({ frames := 0, cells := 0, slots := 0, locals := 0 } : Room)) (fun a U => a = #[(.ref a1), (.int p1)] ∧ Z.Warmed39 U.vm ∧ U.heap = h0) (fun _ _ _ _ _ => True) (fun _ U o U' => ∃ v L, o = .returned v ∧ own_add13_Q Z a1 a2 kc1 p1 ea0 ea1 ea2 ea3 ea4 ea5 ea6 ea7 ea8 ea9 ea10 ea11 ea12 ea13 ea14 ea15 h0 n0 v U'.heap L ∧ FrameEnd U o U' L ({ frames := 0, cells := 0, slots := 0, locals := 0 } : Room).cells ({ frames := 0, cells := 0, slots := 0, locals := 0 } : Room).slots) := by
  refine MetFree.of_bodySF (plainFor_of_name own_pn_IntList) hisR ?_
  intro p e s m args below meth c s₁ Bd hml0 hP hK
  obtain ⟨rfl, hZ, hh⟩ := hP
  have hx := Bd.exec
  have hby := Bd.bytes
  have hml : c.maxLocals = 2 := hml0
  have hown : s.vm.findClass "com/example/kalchas/kalchas/IntList" = some m.cls := findClass_of_methodNamed Bd.named
  have hnm := (name_of_methodNamed Bd.named Bd.method).1
  have X0 : Stand p l e ({ frames := 0, cells := 0, slots := 0, locals := 0 } : Room) s m #[(.ref a1), (.int p1)] below meth c s₁ [] 0 0 := Stand.of_body Bd
  have e0 : s₁.heap = h0 := by rw [← hh, Bd.state]; rfl
  show own_E p e below (own_K (own_add13_Q Z a1 a2 kc1 p1 ea0 ea1 ea2 ea3 ea4 ea5 ea6 ea7 ea8 ea9 ea10 ea11 ea12 ea13 ea14 ea15 h0 n0) s ({ frames := 0, cells := 0, slots := 0, locals := 0 } : Room).cells ({ frames := 0, cells := 0, slots := 0, locals := 0 } : Room).slots) s₁ (entryFrame m #[(.ref a1), (.int p1)] 2)
  refine own_pre (own_add13_ef m a1 a2 kc1 p1 ea0 ea1 ea2 ea3 ea4 ea5 ea6 ea7 ea8 ea9 ea10 ea11 ea12 ea13 ea14 ea15) ?_
  show own_E p e below _ s₁ (mkF m 0 #[rv a1, iv p1] [])
  refine own_st (fun t k => XS.aloadN X0.here hx rfl (hb hby own_d_prog_14_method_2_0) rfl rfl k) ?_
  show own_E p e below _ s₁ (mkF m 1 #[rv a1, iv p1] [.ref a1])
  obtain ⟨T1, X1, e1, st1⟩ := getF X0 hx hZ hown (host := "") (Or.inl (own_w hw 18 rfl)) Via.refl e0 F_size_a1 (g := (mkF m 1 #[rv a1, iv p1] [.ref a1])) rfl rfl (hb hby own_d_prog_14_method_2_1)
  refine own_st st1 ?_
  show own_E p e below _ T1 (mkF m 4 #[rv a1, iv p1] [.int 13])
  refine own_st (fun t k => XS.aloadN X1.here hx rfl (hb hby own_d_prog_14_method_2_4) rfl rfl k) ?_
  show own_E p e below _ T1 (mkF m 5 #[rv a1, iv p1] [.ref a1, .int 13])
  obtain ⟨T2, X2, e2, st2⟩ := getF X1 hx hZ hown (host := "") (Or.inl (own_w hw 11 rfl)) Via.refl e1 F_values_a1 (g := (mkF m 5 #[rv a1, iv p1] [.ref a1, .int 13])) rfl rfl (hb hby own_d_prog_14_method_2_5)
  refine own_st st2 ?_
  show own_E p e below _ T2 (mkF m 8 #[rv a1, iv p1] [.ref a2, .int 13])
  refine own_st (own_alen X2 hx hZ e2 V_a2 (g := (mkF m 8 #[rv a1, iv p1] [.ref a2, .int 13])) rfl rfl (hb hby own_d_prog_14_method_2_8)) ?_
  show own_E p e below _ T2 (mkF m 9 #[rv a1, iv p1] [.int 16, .int 13])
  refine own_st (fun t k => XS.icmpYes X2.here hx rfl (pc0 := 9) (pc' := 29) rfl (hb hby own_d_prog_14_method_2_9) rfl (by decide) (by decide) (by decide) k) ?_
  show own_E p e below _ T2 (mkF m 29 #[rv a1, iv p1] [])
  refine own_st (fun t k => XS.aloadN X2.here hx rfl (hb hby own_d_prog_14_method_2_29) rfl rfl k) ?_
  show own_E p e below _ T2 (mkF m 30 #[rv a1, iv p1] [.ref a1])
  obtain ⟨T3, X3, e3, st3⟩ := getF X2 hx hZ hown (host := "") (Or.inl (own_w hw 11 rfl)) Via.refl e2 F_values_a1 (g := (mkF m 30 #[rv a1, iv p1] [.ref a1])) rfl rfl (hb hby own_d_prog_14_method_2_30)
  refine own_st st3 ?_
  show own_E p e below _ T3 (mkF m 33 #[rv a1, iv p1] [.ref a2])
  refine own_st (fun t k => XS.aloadN X3.here hx rfl (hb hby own_d_prog_14_method_2_33) rfl rfl k) ?_
  show own_E p e below _ T3 (mkF m 34 #[rv a1, iv p1] [.ref a1, .ref a2])
  refine own_st (fun t k => XS.dup X3.here hx rfl (hb hby own_d_prog_14_method_2_34) rfl rfl k) ?_
  show own_E p e below _ T3 (mkF m 35 #[rv a1, iv p1] [.ref a1, .ref a1, .ref a2])
  obtain ⟨T4, X4, e4, st4⟩ := getF X3 hx hZ hown (host := "") (Or.inl (own_w hw 18 rfl)) Via.refl e3 F_size_a1 (g := (mkF m 35 #[rv a1, iv p1] [.ref a1, .ref a1, .ref a2])) rfl rfl (hb hby own_d_prog_14_method_2_35)
  refine own_st st4 ?_
  show own_E p e below _ T4 (mkF m 38 #[rv a1, iv p1] [.int 13, .ref a1, .ref a2])
  refine own_st (fun t k => XS.dupX1 X4.here hx rfl (hb hby own_d_prog_14_method_2_38) rfl rfl rfl k) ?_
  show own_E p e below _ T4 (mkF m 39 #[rv a1, iv p1] [.int 13, .ref a1, .int 13, .ref a2])
  refine own_st (fun t k => XS.iconst X4.here hx rfl (hb hby own_d_prog_14_method_2_39) k) ?_
  show own_E p e below _ T4 (mkF m 40 #[rv a1, iv p1] [.int 1, .int 13, .ref a1, .int 13, .ref a2])
  refine own_st (fun t k => XS.iadd X4.here hx rfl (hb hby own_d_prog_14_method_2_40) rfl k) ?_
  show own_E p e below _ T4 (mkF m 41 #[rv a1, iv p1] [.int 14, .ref a1, .int 13, .ref a2])
  obtain ⟨T5, h5, X5, e5, W5, st5⟩ := putF X4 hx hZ hown (host := "") (Or.inl (own_w hw 18 rfl)) Via.refl e4 F_size_a1 E_a1 (Or.inl (own_w hw 19 rfl)) (own_w hw 2 rfl) (ty := .int) (by decide) rfl rfl (g := (mkF m 41 #[rv a1, iv p1] [.int 14, .ref a1, .int 13, .ref a2])) rfl rfl (hb hby own_d_prog_14_method_2_41)
  have N5 := Fr.snoc X5 (Fr.nil n0) g_a1
  have Fw5 := F_size_a1.same W5
  have Z6 := Nat.le_trans Z0 (Keep.of_wr W5).1
  have K7 : Keep h0 _ [a1, a2] := (Keep.refl h0 [a1, a2]).wr W5 (Or.inl (List.mem_of_getElem? (i := 0) rfl))
  refine own_st st5 ?_
  show own_E p e below _ T5 (mkF m 44 #[rv a1, iv p1] [.int 13, .ref a2])
  refine own_st (fun t k => XS.iloadN X5.here hx rfl (hb hby own_d_prog_14_method_2_44) rfl k) ?_
  show own_E p e below _ T5 (mkF m 45 #[rv a1, iv p1] [.int p1, .int 13, .ref a2])
  have B8 := (V_a2.other W5 (Ne.symm ne12))
  obtain ⟨T9, h9, X9, e9, W9, Vw9, st9⟩ := own_ast X5 hx hZ e5 B8 (j := (13 : Int32)) ⟨by decide, by decide⟩ (x := p1) (i := 13) rfl (Nat.le_of_ble_eq_true rfl) (g := (mkF m 45 #[rv a1, iv p1] [.int p1, .int 13, .ref a2])) rfl rfl (hb hby own_d_prog_14_method_2_45)
  have V9 : Arv Z h9 a2 kc1 .int (16 : Int32) [(.int ea0), (.int ea1), (.int ea2), (.int ea3), (.int ea4), (.int ea5), (.int ea6), (.int ea7), (.int ea8), (.int ea9), (.int ea10), (.int ea11), (.int ea12), (.int p1), (.int ea14), (.int ea15)] (.int (0 : Int32)) := Vw9
  have N9 := Fr.snoc X9 N5 g_a2
  have Z10 := Nat.le_trans Z6 (Keep.of_wr W9).1
  have K11 : Keep h0 _ [a1, a2] := K7.wr W9 (Or.inl (List.mem_of_getElem? (i := 1) rfl))
  refine own_st st9 ?_
  show own_E p e below _ T9 (mkF m 46 #[rv a1, iv p1] [])
  refine own_retV X9 hx Bd.notSynchronized Bd.returns (hb hby own_d_prog_14_method_2_46) (by decide) (by decide) ?_
  have B12 := ((E_a1.wr W5).wr W9)
  have B13 := ((F_values_a1.other W5 (Or.inr (slot_ne (Or.inl (own_w hw 12 rfl)) (Or.inl (own_w hw 19 rfl)) (by decide) (t := (.array .int)) (t' := .int) (by decide) (by decide)))).other W9 (Or.inl ne12))
  have B14 := (Fw5.other W9 (Or.inl ne12))
  show own_add13_Q Z a1 a2 kc1 p1 ea0 ea1 ea2 ea3 ea4 ea5 ea6 ea7 ea8 ea9 ea10 ea11 ea12 ea13 ea14 ea15 h0 n0 _ T9.heap _
  rw [e9]
  exact ⟨rfl, N9, K11, B12, B13, B14, V9⟩
def own_add14_Q (Z : State) (a1 : Addr) (a2 : Addr) (kc1 : ClassId) (p1 : Int32) (ea0 : Int32) (ea1 : Int32) (ea2 : Int32) (ea3 : Int32) (ea4 : Int32) (ea5 : Int32) (ea6 : Int32) (ea7 : Int32) (ea8 : Int32) (ea9 : Int32) (ea10 : Int32) (ea11 : Int32) (ea12 : Int32) (ea13 : Int32) (ea14 : Int32) (ea15 : Int32) (h0 : Heap) (n0 : Nat) (v : Option Value) (h : Heap) (L : List Loc) : Prop := v = none ∧ Fr n0 L ∧ Keep h0 h [a1, a2] ∧ Exa Z h a1 "com/example/kalchas/kalchas/IntList" ∧ Fld Z h a1 "com/example/kalchas/kalchas/IntList" "values" "[I" (.ref a2) ∧ Fld Z h a1 "com/example/kalchas/kalchas/IntList" "size" "I" (.int (15 : Int32)) ∧ Arv Z h a2 kc1 .int (16 : Int32) [(.int ea0), (.int ea1), (.int ea2), (.int ea3), (.int ea4), (.int ea5), (.int ea6), (.int ea7), (.int ea8), (.int ea9), (.int ea10), (.int ea11), (.int ea12), (.int ea13), (.int p1), (.int ea15)] (.int (0 : Int32))
theorem own_add14_ef (m : MethodId) (a1 : Addr) (a2 : Addr) (kc1 : ClassId) (p1 : Int32) (ea0 : Int32) (ea1 : Int32) (ea2 : Int32) (ea3 : Int32) (ea4 : Int32) (ea5 : Int32) (ea6 : Int32) (ea7 : Int32) (ea8 : Int32) (ea9 : Int32) (ea10 : Int32) (ea11 : Int32) (ea12 : Int32) (ea13 : Int32) (ea14 : Int32) (ea15 : Int32) : entryFrame m #[(.ref a1), (.int p1)] 2 = mkF m 0 #[.val (.ref a1), .val (.int p1)] [] := by first | (simp [entryFrame, mkF, argsToLocals, Value.category]; done) | rfl
set_option maxRecDepth 65536 in
set_option maxHeartbeats 40000000 in
theorem own_add14 (l : Launch) (Z : State) (a0 : Array Value) (hw : ∀ d ∈ tables_1, d.before a0 Z = true) (ws : List Jvm.Cond) (a1 : Addr) (a2 : Addr) (kc1 : ClassId) (p1 : Int32) (ea0 : Int32) (ea1 : Int32) (ea2 : Int32) (ea3 : Int32) (ea4 : Int32) (ea5 : Int32) (ea6 : Int32) (ea7 : Int32) (ea8 : Int32) (ea9 : Int32) (ea10 : Int32) (ea11 : Int32) (ea12 : Int32) (ea13 : Int32) (ea14 : Int32) (ea15 : Int32) (h0 : Heap) (n0 : Nat) (Z0 : n0 ≤ h0.size) (E_a1 : Exa Z h0 a1 "com/example/kalchas/kalchas/IntList") (F_values_a1 : Fld Z h0 a1 "com/example/kalchas/kalchas/IntList" "values" "[I" (.ref a2)) (F_size_a1 : Fld Z h0 a1 "com/example/kalchas/kalchas/IntList" "size" "I" (.int (14 : Int32))) (V_a2 : Arv Z h0 a2 kc1 .int (16 : Int32) [(.int ea0), (.int ea1), (.int ea2), (.int ea3), (.int ea4), (.int ea5), (.int ea6), (.int ea7), (.int ea8), (.int ea9), (.int ea10), (.int ea11), (.int ea12), (.int ea13), (.int ea14), (.int ea15)] (.int (0 : Int32))) (ne12 : a1 ≠ a2) (g_a1 : n0 ≤ a1) (g_a2 : n0 ≤ a2) :
    MetFree l own_y5 (head1 (Jvm.Cond.code own_y5 prog_14_method_2_code 2 none :: ws) ({ frames := 0, cells := 0, slots := 0, locals := 0 } : Room)) (fun a U => a = #[(.ref a1), (.int p1)] ∧ Z.Warmed39 U.vm ∧ U.heap = h0) (fun _ _ _ _ _ => True) (fun _ U o U' => ∃ v L, o = .returned v ∧ own_add14_Q Z a1 a2 kc1 p1 ea0 ea1 ea2 ea3 ea4 ea5 ea6 ea7 ea8 ea9 ea10 ea11 ea12 ea13 ea14 ea15 h0 n0 v U'.heap L ∧ FrameEnd U o U' L ({ frames := 0, cells := 0, slots := 0, locals := 0 } : Room).cells ({ frames := 0, cells := 0, slots := 0, locals := 0 } : Room).slots) := by
  refine MetFree.of_bodySF (plainFor_of_name own_pn_IntList) hisR ?_
  intro p e s m args below meth c s₁ Bd hml0 hP hK
  obtain ⟨rfl, hZ, hh⟩ := hP
  have hx := Bd.exec
  have hby := Bd.bytes
  have hml : c.maxLocals = 2 := hml0
  have hown : s.vm.findClass "com/example/kalchas/kalchas/IntList" = some m.cls := findClass_of_methodNamed Bd.named
  have hnm := (name_of_methodNamed Bd.named Bd.method).1
  have X0 : Stand p l e ({ frames := 0, cells := 0, slots := 0, locals := 0 } : Room) s m #[(.ref a1), (.int p1)] below meth c s₁ [] 0 0 := Stand.of_body Bd
  have e0 : s₁.heap = h0 := by rw [← hh, Bd.state]; rfl
  show own_E p e below (own_K (own_add14_Q Z a1 a2 kc1 p1 ea0 ea1 ea2 ea3 ea4 ea5 ea6 ea7 ea8 ea9 ea10 ea11 ea12 ea13 ea14 ea15 h0 n0) s ({ frames := 0, cells := 0, slots := 0, locals := 0 } : Room).cells ({ frames := 0, cells := 0, slots := 0, locals := 0 } : Room).slots) s₁ (entryFrame m #[(.ref a1), (.int p1)] 2)
  refine own_pre (own_add14_ef m a1 a2 kc1 p1 ea0 ea1 ea2 ea3 ea4 ea5 ea6 ea7 ea8 ea9 ea10 ea11 ea12 ea13 ea14 ea15) ?_
  show own_E p e below _ s₁ (mkF m 0 #[rv a1, iv p1] [])
  refine own_st (fun t k => XS.aloadN X0.here hx rfl (hb hby own_d_prog_14_method_2_0) rfl rfl k) ?_
  show own_E p e below _ s₁ (mkF m 1 #[rv a1, iv p1] [.ref a1])
  obtain ⟨T1, X1, e1, st1⟩ := getF X0 hx hZ hown (host := "") (Or.inl (own_w hw 18 rfl)) Via.refl e0 F_size_a1 (g := (mkF m 1 #[rv a1, iv p1] [.ref a1])) rfl rfl (hb hby own_d_prog_14_method_2_1)
  refine own_st st1 ?_
  show own_E p e below _ T1 (mkF m 4 #[rv a1, iv p1] [.int 14])
  refine own_st (fun t k => XS.aloadN X1.here hx rfl (hb hby own_d_prog_14_method_2_4) rfl rfl k) ?_
  show own_E p e below _ T1 (mkF m 5 #[rv a1, iv p1] [.ref a1, .int 14])
  obtain ⟨T2, X2, e2, st2⟩ := getF X1 hx hZ hown (host := "") (Or.inl (own_w hw 11 rfl)) Via.refl e1 F_values_a1 (g := (mkF m 5 #[rv a1, iv p1] [.ref a1, .int 14])) rfl rfl (hb hby own_d_prog_14_method_2_5)
  refine own_st st2 ?_
  show own_E p e below _ T2 (mkF m 8 #[rv a1, iv p1] [.ref a2, .int 14])
  refine own_st (own_alen X2 hx hZ e2 V_a2 (g := (mkF m 8 #[rv a1, iv p1] [.ref a2, .int 14])) rfl rfl (hb hby own_d_prog_14_method_2_8)) ?_
  show own_E p e below _ T2 (mkF m 9 #[rv a1, iv p1] [.int 16, .int 14])
  refine own_st (fun t k => XS.icmpYes X2.here hx rfl (pc0 := 9) (pc' := 29) rfl (hb hby own_d_prog_14_method_2_9) rfl (by decide) (by decide) (by decide) k) ?_
  show own_E p e below _ T2 (mkF m 29 #[rv a1, iv p1] [])
  refine own_st (fun t k => XS.aloadN X2.here hx rfl (hb hby own_d_prog_14_method_2_29) rfl rfl k) ?_
  show own_E p e below _ T2 (mkF m 30 #[rv a1, iv p1] [.ref a1])
  obtain ⟨T3, X3, e3, st3⟩ := getF X2 hx hZ hown (host := "") (Or.inl (own_w hw 11 rfl)) Via.refl e2 F_values_a1 (g := (mkF m 30 #[rv a1, iv p1] [.ref a1])) rfl rfl (hb hby own_d_prog_14_method_2_30)
  refine own_st st3 ?_
  show own_E p e below _ T3 (mkF m 33 #[rv a1, iv p1] [.ref a2])
  refine own_st (fun t k => XS.aloadN X3.here hx rfl (hb hby own_d_prog_14_method_2_33) rfl rfl k) ?_
  show own_E p e below _ T3 (mkF m 34 #[rv a1, iv p1] [.ref a1, .ref a2])
  refine own_st (fun t k => XS.dup X3.here hx rfl (hb hby own_d_prog_14_method_2_34) rfl rfl k) ?_
  show own_E p e below _ T3 (mkF m 35 #[rv a1, iv p1] [.ref a1, .ref a1, .ref a2])
  obtain ⟨T4, X4, e4, st4⟩ := getF X3 hx hZ hown (host := "") (Or.inl (own_w hw 18 rfl)) Via.refl e3 F_size_a1 (g := (mkF m 35 #[rv a1, iv p1] [.ref a1, .ref a1, .ref a2])) rfl rfl (hb hby own_d_prog_14_method_2_35)
  refine own_st st4 ?_
  show own_E p e below _ T4 (mkF m 38 #[rv a1, iv p1] [.int 14, .ref a1, .ref a2])
  refine own_st (fun t k => XS.dupX1 X4.here hx rfl (hb hby own_d_prog_14_method_2_38) rfl rfl rfl k) ?_
  show own_E p e below _ T4 (mkF m 39 #[rv a1, iv p1] [.int 14, .ref a1, .int 14, .ref a2])
  refine own_st (fun t k => XS.iconst X4.here hx rfl (hb hby own_d_prog_14_method_2_39) k) ?_
  show own_E p e below _ T4 (mkF m 40 #[rv a1, iv p1] [.int 1, .int 14, .ref a1, .int 14, .ref a2])
  refine own_st (fun t k => XS.iadd X4.here hx rfl (hb hby own_d_prog_14_method_2_40) rfl k) ?_
  show own_E p e below _ T4 (mkF m 41 #[rv a1, iv p1] [.int 15, .ref a1, .int 14, .ref a2])
  obtain ⟨T5, h5, X5, e5, W5, st5⟩ := putF X4 hx hZ hown (host := "") (Or.inl (own_w hw 18 rfl)) Via.refl e4 F_size_a1 E_a1 (Or.inl (own_w hw 19 rfl)) (own_w hw 2 rfl) (ty := .int) (by decide) rfl rfl (g := (mkF m 41 #[rv a1, iv p1] [.int 15, .ref a1, .int 14, .ref a2])) rfl rfl (hb hby own_d_prog_14_method_2_41)
  have N5 := Fr.snoc X5 (Fr.nil n0) g_a1
  have Fw5 := F_size_a1.same W5
  have Z6 := Nat.le_trans Z0 (Keep.of_wr W5).1
  have K7 : Keep h0 _ [a1, a2] := (Keep.refl h0 [a1, a2]).wr W5 (Or.inl (List.mem_of_getElem? (i := 0) rfl))
  refine own_st st5 ?_
  show own_E p e below _ T5 (mkF m 44 #[rv a1, iv p1] [.int 14, .ref a2])
  refine own_st (fun t k => XS.iloadN X5.here hx rfl (hb hby own_d_prog_14_method_2_44) rfl k) ?_
  show own_E p e below _ T5 (mkF m 45 #[rv a1, iv p1] [.int p1, .int 14, .ref a2])
  have B8 := (V_a2.other W5 (Ne.symm ne12))
  obtain ⟨T9, h9, X9, e9, W9, Vw9, st9⟩ := own_ast X5 hx hZ e5 B8 (j := (14 : Int32)) ⟨by decide, by decide⟩ (x := p1) (i := 14) rfl (Nat.le_of_ble_eq_true rfl) (g := (mkF m 45 #[rv a1, iv p1] [.int p1, .int 14, .ref a2])) rfl rfl (hb hby own_d_prog_14_method_2_45)
  have V9 : Arv Z h9 a2 kc1 .int (16 : Int32) [(.int ea0), (.int ea1), (.int ea2), (.int ea3), (.int ea4), (.int ea5), (.int ea6), (.int ea7), (.int ea8), (.int ea9), (.int ea10), (.int ea11), (.int ea12), (.int ea13), (.int p1), (.int ea15)] (.int (0 : Int32)) := Vw9
  have N9 := Fr.snoc X9 N5 g_a2
  have Z10 := Nat.le_trans Z6 (Keep.of_wr W9).1
  have K11 : Keep h0 _ [a1, a2] := K7.wr W9 (Or.inl (List.mem_of_getElem? (i := 1) rfl))
  refine own_st st9 ?_
  show own_E p e below _ T9 (mkF m 46 #[rv a1, iv p1] [])
  refine own_retV X9 hx Bd.notSynchronized Bd.returns (hb hby own_d_prog_14_method_2_46) (by decide) (by decide) ?_
  have B12 := ((E_a1.wr W5).wr W9)
  have B13 := ((F_values_a1.other W5 (Or.inr (slot_ne (Or.inl (own_w hw 12 rfl)) (Or.inl (own_w hw 19 rfl)) (by decide) (t := (.array .int)) (t' := .int) (by decide) (by decide)))).other W9 (Or.inl ne12))
  have B14 := (Fw5.other W9 (Or.inl ne12))
  show own_add14_Q Z a1 a2 kc1 p1 ea0 ea1 ea2 ea3 ea4 ea5 ea6 ea7 ea8 ea9 ea10 ea11 ea12 ea13 ea14 ea15 h0 n0 _ T9.heap _
  rw [e9]
  exact ⟨rfl, N9, K11, B12, B13, B14, V9⟩
def own_add15_Q (Z : State) (a1 : Addr) (a2 : Addr) (kc1 : ClassId) (p1 : Int32) (ea0 : Int32) (ea1 : Int32) (ea2 : Int32) (ea3 : Int32) (ea4 : Int32) (ea5 : Int32) (ea6 : Int32) (ea7 : Int32) (ea8 : Int32) (ea9 : Int32) (ea10 : Int32) (ea11 : Int32) (ea12 : Int32) (ea13 : Int32) (ea14 : Int32) (ea15 : Int32) (h0 : Heap) (n0 : Nat) (v : Option Value) (h : Heap) (L : List Loc) : Prop := v = none ∧ Fr n0 L ∧ Keep h0 h [a1, a2] ∧ Exa Z h a1 "com/example/kalchas/kalchas/IntList" ∧ Fld Z h a1 "com/example/kalchas/kalchas/IntList" "values" "[I" (.ref a2) ∧ Fld Z h a1 "com/example/kalchas/kalchas/IntList" "size" "I" (.int (16 : Int32)) ∧ Arv Z h a2 kc1 .int (16 : Int32) [(.int ea0), (.int ea1), (.int ea2), (.int ea3), (.int ea4), (.int ea5), (.int ea6), (.int ea7), (.int ea8), (.int ea9), (.int ea10), (.int ea11), (.int ea12), (.int ea13), (.int ea14), (.int p1)] (.int (0 : Int32))
theorem own_add15_ef (m : MethodId) (a1 : Addr) (a2 : Addr) (kc1 : ClassId) (p1 : Int32) (ea0 : Int32) (ea1 : Int32) (ea2 : Int32) (ea3 : Int32) (ea4 : Int32) (ea5 : Int32) (ea6 : Int32) (ea7 : Int32) (ea8 : Int32) (ea9 : Int32) (ea10 : Int32) (ea11 : Int32) (ea12 : Int32) (ea13 : Int32) (ea14 : Int32) (ea15 : Int32) : entryFrame m #[(.ref a1), (.int p1)] 2 = mkF m 0 #[.val (.ref a1), .val (.int p1)] [] := by first | (simp [entryFrame, mkF, argsToLocals, Value.category]; done) | rfl
set_option maxRecDepth 65536 in
set_option maxHeartbeats 40000000 in
theorem own_add15 (l : Launch) (Z : State) (a0 : Array Value) (hw : ∀ d ∈ tables_1, d.before a0 Z = true) (ws : List Jvm.Cond) (a1 : Addr) (a2 : Addr) (kc1 : ClassId) (p1 : Int32) (ea0 : Int32) (ea1 : Int32) (ea2 : Int32) (ea3 : Int32) (ea4 : Int32) (ea5 : Int32) (ea6 : Int32) (ea7 : Int32) (ea8 : Int32) (ea9 : Int32) (ea10 : Int32) (ea11 : Int32) (ea12 : Int32) (ea13 : Int32) (ea14 : Int32) (ea15 : Int32) (h0 : Heap) (n0 : Nat) (Z0 : n0 ≤ h0.size) (E_a1 : Exa Z h0 a1 "com/example/kalchas/kalchas/IntList") (F_values_a1 : Fld Z h0 a1 "com/example/kalchas/kalchas/IntList" "values" "[I" (.ref a2)) (F_size_a1 : Fld Z h0 a1 "com/example/kalchas/kalchas/IntList" "size" "I" (.int (15 : Int32))) (V_a2 : Arv Z h0 a2 kc1 .int (16 : Int32) [(.int ea0), (.int ea1), (.int ea2), (.int ea3), (.int ea4), (.int ea5), (.int ea6), (.int ea7), (.int ea8), (.int ea9), (.int ea10), (.int ea11), (.int ea12), (.int ea13), (.int ea14), (.int ea15)] (.int (0 : Int32))) (ne12 : a1 ≠ a2) (g_a1 : n0 ≤ a1) (g_a2 : n0 ≤ a2) :
    MetFree l own_y5 (head1 (Jvm.Cond.code own_y5 prog_14_method_2_code 2 none :: ws) ({ frames := 0, cells := 0, slots := 0, locals := 0 } : Room)) (fun a U => a = #[(.ref a1), (.int p1)] ∧ Z.Warmed39 U.vm ∧ U.heap = h0) (fun _ _ _ _ _ => True) (fun _ U o U' => ∃ v L, o = .returned v ∧ own_add15_Q Z a1 a2 kc1 p1 ea0 ea1 ea2 ea3 ea4 ea5 ea6 ea7 ea8 ea9 ea10 ea11 ea12 ea13 ea14 ea15 h0 n0 v U'.heap L ∧ FrameEnd U o U' L ({ frames := 0, cells := 0, slots := 0, locals := 0 } : Room).cells ({ frames := 0, cells := 0, slots := 0, locals := 0 } : Room).slots) := by
  refine MetFree.of_bodySF (plainFor_of_name own_pn_IntList) hisR ?_
  intro p e s m args below meth c s₁ Bd hml0 hP hK
  obtain ⟨rfl, hZ, hh⟩ := hP
  have hx := Bd.exec
  have hby := Bd.bytes
  have hml : c.maxLocals = 2 := hml0
  have hown : s.vm.findClass "com/example/kalchas/kalchas/IntList" = some m.cls := findClass_of_methodNamed Bd.named
  have hnm := (name_of_methodNamed Bd.named Bd.method).1
  have X0 : Stand p l e ({ frames := 0, cells := 0, slots := 0, locals := 0 } : Room) s m #[(.ref a1), (.int p1)] below meth c s₁ [] 0 0 := Stand.of_body Bd
  have e0 : s₁.heap = h0 := by rw [← hh, Bd.state]; rfl
  show own_E p e below (own_K (own_add15_Q Z a1 a2 kc1 p1 ea0 ea1 ea2 ea3 ea4 ea5 ea6 ea7 ea8 ea9 ea10 ea11 ea12 ea13 ea14 ea15 h0 n0) s ({ frames := 0, cells := 0, slots := 0, locals := 0 } : Room).cells ({ frames := 0, cells := 0, slots := 0, locals := 0 } : Room).slots) s₁ (entryFrame m #[(.ref a1), (.int p1)] 2)
  refine own_pre (own_add15_ef m a1 a2 kc1 p1 ea0 ea1 ea2 ea3 ea4 ea5 ea6 ea7 ea8 ea9 ea10 ea11 ea12 ea13 ea14 ea15) ?_
  show own_E p e below _ s₁ (mkF m 0 #[rv a1, iv p1] [])
  refine own_st (fun t k => XS.aloadN X0.here hx rfl (hb hby own_d_prog_14_method_2_0) rfl rfl k) ?_
  show own_E p e below _ s₁ (mkF m 1 #[rv a1, iv p1] [.ref a1])
  obtain ⟨T1, X1, e1, st1⟩ := getF X0 hx hZ hown (host := "") (Or.inl (own_w hw 18 rfl)) Via.refl e0 F_size_a1 (g := (mkF m 1 #[rv a1, iv p1] [.ref a1])) rfl rfl (hb hby own_d_prog_14_method_2_1)
  refine own_st st1 ?_
  show own_E p e below _ T1 (mkF m 4 #[rv a1, iv p1] [.int 15])
  refine own_st (fun t k => XS.aloadN X1.here hx rfl (hb hby own_d_prog_14_method_2_4) rfl rfl k) ?_
  show own_E p e below _ T1 (mkF m 5 #[rv a1, iv p1] [.ref a1, .int 15])
  obtain ⟨T2, X2, e2, st2⟩ := getF X1 hx hZ hown (host := "") (Or.inl (own_w hw 11 rfl)) Via.refl e1 F_values_a1 (g := (mkF m 5 #[rv a1, iv p1] [.ref a1, .int 15])) rfl rfl (hb hby own_d_prog_14_method_2_5)
  refine own_st st2 ?_
  show own_E p e below _ T2 (mkF m 8 #[rv a1, iv p1] [.ref a2, .int 15])
  refine own_st (own_alen X2 hx hZ e2 V_a2 (g := (mkF m 8 #[rv a1, iv p1] [.ref a2, .int 15])) rfl rfl (hb hby own_d_prog_14_method_2_8)) ?_
  show own_E p e below _ T2 (mkF m 9 #[rv a1, iv p1] [.int 16, .int 15])
  refine own_st (fun t k => XS.icmpYes X2.here hx rfl (pc0 := 9) (pc' := 29) rfl (hb hby own_d_prog_14_method_2_9) rfl (by decide) (by decide) (by decide) k) ?_
  show own_E p e below _ T2 (mkF m 29 #[rv a1, iv p1] [])
  refine own_st (fun t k => XS.aloadN X2.here hx rfl (hb hby own_d_prog_14_method_2_29) rfl rfl k) ?_
  show own_E p e below _ T2 (mkF m 30 #[rv a1, iv p1] [.ref a1])
  obtain ⟨T3, X3, e3, st3⟩ := getF X2 hx hZ hown (host := "") (Or.inl (own_w hw 11 rfl)) Via.refl e2 F_values_a1 (g := (mkF m 30 #[rv a1, iv p1] [.ref a1])) rfl rfl (hb hby own_d_prog_14_method_2_30)
  refine own_st st3 ?_
  show own_E p e below _ T3 (mkF m 33 #[rv a1, iv p1] [.ref a2])
  refine own_st (fun t k => XS.aloadN X3.here hx rfl (hb hby own_d_prog_14_method_2_33) rfl rfl k) ?_
  show own_E p e below _ T3 (mkF m 34 #[rv a1, iv p1] [.ref a1, .ref a2])
  refine own_st (fun t k => XS.dup X3.here hx rfl (hb hby own_d_prog_14_method_2_34) rfl rfl k) ?_
  show own_E p e below _ T3 (mkF m 35 #[rv a1, iv p1] [.ref a1, .ref a1, .ref a2])
  obtain ⟨T4, X4, e4, st4⟩ := getF X3 hx hZ hown (host := "") (Or.inl (own_w hw 18 rfl)) Via.refl e3 F_size_a1 (g := (mkF m 35 #[rv a1, iv p1] [.ref a1, .ref a1, .ref a2])) rfl rfl (hb hby own_d_prog_14_method_2_35)
  refine own_st st4 ?_
  show own_E p e below _ T4 (mkF m 38 #[rv a1, iv p1] [.int 15, .ref a1, .ref a2])
  refine own_st (fun t k => XS.dupX1 X4.here hx rfl (hb hby own_d_prog_14_method_2_38) rfl rfl rfl k) ?_
  show own_E p e below _ T4 (mkF m 39 #[rv a1, iv p1] [.int 15, .ref a1, .int 15, .ref a2])
  refine own_st (fun t k => XS.iconst X4.here hx rfl (hb hby own_d_prog_14_method_2_39) k) ?_
  show own_E p e below _ T4 (mkF m 40 #[rv a1, iv p1] [.int 1, .int 15, .ref a1, .int 15, .ref a2])
  refine own_st (fun t k => XS.iadd X4.here hx rfl (hb hby own_d_prog_14_method_2_40) rfl k) ?_
  show own_E p e below _ T4 (mkF m 41 #[rv a1, iv p1] [.int 16, .ref a1, .int 15, .ref a2])
  obtain ⟨T5, h5, X5, e5, W5, st5⟩ := putF X4 hx hZ hown (host := "") (Or.inl (own_w hw 18 rfl)) Via.refl e4 F_size_a1 E_a1 (Or.inl (own_w hw 19 rfl)) (own_w hw 2 rfl) (ty := .int) (by decide) rfl rfl (g := (mkF m 41 #[rv a1, iv p1] [.int 16, .ref a1, .int 15, .ref a2])) rfl rfl (hb hby own_d_prog_14_method_2_41)
  have N5 := Fr.snoc X5 (Fr.nil n0) g_a1
  have Fw5 := F_size_a1.same W5
  have Z6 := Nat.le_trans Z0 (Keep.of_wr W5).1
  have K7 : Keep h0 _ [a1, a2] := (Keep.refl h0 [a1, a2]).wr W5 (Or.inl (List.mem_of_getElem? (i := 0) rfl))
  refine own_st st5 ?_
  show own_E p e below _ T5 (mkF m 44 #[rv a1, iv p1] [.int 15, .ref a2])
  refine own_st (fun t k => XS.iloadN X5.here hx rfl (hb hby own_d_prog_14_method_2_44) rfl k) ?_
  show own_E p e below _ T5 (mkF m 45 #[rv a1, iv p1] [.int p1, .int 15, .ref a2])
  have B8 := (V_a2.other W5 (Ne.symm ne12))
  obtain ⟨T9, h9, X9, e9, W9, Vw9, st9⟩ := own_ast X5 hx hZ e5 B8 (j := (15 : Int32)) ⟨by decide, by decide⟩ (x := p1) (i := 15) rfl (Nat.le_of_ble_eq_true rfl) (g := (mkF m 45 #[rv a1, iv p1] [.int p1, .int 15, .ref a2])) rfl rfl (hb hby own_d_prog_14_method_2_45)
  have V9 : Arv Z h9 a2 kc1 .int (16 : Int32) [(.int ea0), (.int ea1), (.int ea2), (.int ea3), (.int ea4), (.int ea5), (.int ea6), (.int ea7), (.int ea8), (.int ea9), (.int ea10), (.int ea11), (.int ea12), (.int ea13), (.int ea14), (.int p1)] (.int (0 : Int32)) := Vw9
  have N9 := Fr.snoc X9 N5 g_a2
  have Z10 := Nat.le_trans Z6 (Keep.of_wr W9).1
  have K11 : Keep h0 _ [a1, a2] := K7.wr W9 (Or.inl (List.mem_of_getElem? (i := 1) rfl))
  refine own_st st9 ?_
  show own_E p e below _ T9 (mkF m 46 #[rv a1, iv p1] [])
  refine own_retV X9 hx Bd.notSynchronized Bd.returns (hb hby own_d_prog_14_method_2_46) (by decide) (by decide) ?_
  have B12 := ((E_a1.wr W5).wr W9)
  have B13 := ((F_values_a1.other W5 (Or.inr (slot_ne (Or.inl (own_w hw 12 rfl)) (Or.inl (own_w hw 19 rfl)) (by decide) (t := (.array .int)) (t' := .int) (by decide) (by decide)))).other W9 (Or.inl ne12))
  have B14 := (Fw5.other W9 (Or.inl ne12))
  show own_add15_Q Z a1 a2 kc1 p1 ea0 ea1 ea2 ea3 ea4 ea5 ea6 ea7 ea8 ea9 ea10 ea11 ea12 ea13 ea14 ea15 h0 n0 _ T9.heap _
  rw [e9]
  exact ⟨rfl, N9, K11, B12, B13, B14, V9⟩
theorem own_d_prog_14_method_2_12 : decode prog_14_method_2_code 12 = .ok (.aload_n 0, 1) := by decide +kernel
theorem own_d_prog_14_method_2_13 : decode prog_14_method_2_code 13 = .ok (.aload_n 0, 1) := by decide +kernel
theorem own_d_prog_14_method_2_14 : decode prog_14_method_2_code 14 = .ok (.getfield 7, 3) := by decide +kernel
theorem own_d_prog_14_method_2_17 : decode prog_14_method_2_code 17 = .ok (.iconst 2, 1) := by decide +kernel
theorem own_d_prog_14_method_2_18 : decode prog_14_method_2_code 18 = .ok (.aload_n 0, 1) := by decide +kernel
theorem own_d_prog_14_method_2_19 : decode prog_14_method_2_code 19 = .ok (.getfield 13, 3) := by decide +kernel
theorem own_d_prog_14_method_2_22 : decode prog_14_method_2_code 22 = .ok (.imul, 1) := by decide +kernel
theorem own_d_prog_14_method_2_23 : decode prog_14_method_2_code 23 = .ok (.invokestatic 17, 3) := by decide +kernel
theorem own_pd_8 : parseMethodDescriptor "([II)[I" = some ⟨[(.array .int), .int], some (.array .int)⟩ := by decide +kernel
theorem own_d_prog_14_method_2_26 : decode prog_14_method_2_code 26 = .ok (.putfield 7, 3) := by decide +kernel
def own_add16_Q (Z : State) (a1 : Addr) (a2 : Addr) (kc1 : ClassId) (p1 : Int32) (ea0 : Int32) (ea1 : Int32) (ea2 : Int32) (ea3 : Int32) (ea4 : Int32) (ea5 : Int32) (ea6 : Int32) (ea7 : Int32) (ea8 : Int32) (ea9 : Int32) (ea10 : Int32) (ea11 : Int32) (ea12 : Int32) (ea13 : Int32) (ea14 : Int32) (ea15 : Int32) (h0 : Heap) (n0 : Nat) (v : Option Value) (h : Heap) (L : List Loc) : Prop := ∃ (o0 : Addr), ∃ (o1 : ClassId), v = none ∧ Fr n0 L ∧ Keep h0 h [a1] ∧ h0.size ≤ o0 ∧ Exa Z h a1 "com/example/kalchas/kalchas/IntList" ∧ Fld Z h a1 "com/example/kalchas/kalchas/IntList" "values" "[I" (.ref o0) ∧ Fld Z h a1 "com/example/kalchas/kalchas/IntList" "size" "I" (.int (17 : Int32)) ∧ Arv Z h o0 o1 .int (32 : Int32) [(.int ea0), (.int ea1), (.int ea2), (.int ea3), (.int ea4), (.int ea5), (.int ea6), (.int ea7), (.int ea8), (.int ea9), (.int ea10), (.int ea11), (.int ea12), (.int ea13), (.int ea14), (.int ea15), (.int p1), (.int (0 : Int32)), (.int (0 : Int32)), (.int (0 : Int32)), (.int (0 : Int32)), (.int (0 : Int32)), (.int (0 : Int32)), (.int (0 : Int32)), (.int (0 : Int32)), (.int (0 : Int32)), (.int (0 : Int32)), (.int (0 : Int32)), (.int (0 : Int32)), (.int (0 : Int32)), (.int (0 : Int32)), (.int (0 : Int32))] (.int (0 : Int32))
theorem own_add16_ef (m : MethodId) (a1 : Addr) (a2 : Addr) (kc1 : ClassId) (p1 : Int32) (ea0 : Int32) (ea1 : Int32) (ea2 : Int32) (ea3 : Int32) (ea4 : Int32) (ea5 : Int32) (ea6 : Int32) (ea7 : Int32) (ea8 : Int32) (ea9 : Int32) (ea10 : Int32) (ea11 : Int32) (ea12 : Int32) (ea13 : Int32) (ea14 : Int32) (ea15 : Int32) : entryFrame m #[(.ref a1), (.int p1)] 2 = mkF m 0 #[.val (.ref a1), .val (.int p1)] [] := by first | (simp [entryFrame, mkF, argsToLocals, Value.category]; done) | rfl
set_option maxRecDepth 65536 in
set_option maxHeartbeats 40000000 in
theorem own_add16 (l : Launch) (Z : State) (a0 : Array Value) (hw : ∀ d ∈ tables_1, d.before a0 Z = true) (ws : List Jvm.Cond) (a1 : Addr) (a2 : Addr) (kc1 : ClassId) (p1 : Int32) (ea0 : Int32) (ea1 : Int32) (ea2 : Int32) (ea3 : Int32) (ea4 : Int32) (ea5 : Int32) (ea6 : Int32) (ea7 : Int32) (ea8 : Int32) (ea9 : Int32) (ea10 : Int32) (ea11 : Int32) (ea12 : Int32) (ea13 : Int32) (ea14 : Int32) (ea15 : Int32) (h0 : Heap) (n0 : Nat) (Z0 : n0 ≤ h0.size) (E_a1 : Exa Z h0 a1 "com/example/kalchas/kalchas/IntList") (F_values_a1 : Fld Z h0 a1 "com/example/kalchas/kalchas/IntList" "values" "[I" (.ref a2)) (F_size_a1 : Fld Z h0 a1 "com/example/kalchas/kalchas/IntList" "size" "I" (.int (16 : Int32))) (V_a2 : Arv Z h0 a2 kc1 .int (16 : Int32) [(.int ea0), (.int ea1), (.int ea2), (.int ea3), (.int ea4), (.int ea5), (.int ea6), (.int ea7), (.int ea8), (.int ea9), (.int ea10), (.int ea11), (.int ea12), (.int ea13), (.int ea14), (.int ea15)] (.int (0 : Int32))) (ne12 : a1 ≠ a2) (g_a1 : n0 ≤ a1) :
    MetFree l own_y5 (head1 (Jvm.Cond.code own_y5 prog_14_method_2_code 2 none :: ws) ({ frames := 2, cells := 1, slots := 32, locals := 55 } : Room)) (fun a U => a = #[(.ref a1), (.int p1)] ∧ Z.Warmed39 U.vm ∧ U.heap = h0) (fun _ _ _ _ _ => True) (fun _ U o U' => ∃ v L, o = .returned v ∧ own_add16_Q Z a1 a2 kc1 p1 ea0 ea1 ea2 ea3 ea4 ea5 ea6 ea7 ea8 ea9 ea10 ea11 ea12 ea13 ea14 ea15 h0 n0 v U'.heap L ∧ FrameEnd U o U' L ({ frames := 2, cells := 1, slots := 32, locals := 55 } : Room).cells ({ frames := 2, cells := 1, slots := 32, locals := 55 } : Room).slots) := by
  refine MetFree.of_bodySF (plainFor_of_name own_pn_IntList) hisR ?_
  intro p e s m args below meth c s₁ Bd hml0 hP hK
  obtain ⟨rfl, hZ, hh⟩ := hP
  have hx := Bd.exec
  have hby := Bd.bytes
  have hml : c.maxLocals = 2 := hml0
  have hown : s.vm.findClass "com/example/kalchas/kalchas/IntList" = some m.cls := findClass_of_methodNamed Bd.named
  have hnm := (name_of_methodNamed Bd.named Bd.method).1
  have X0 : Stand p l e ({ frames := 2, cells := 1, slots := 32, locals := 55 } : Room) s m #[(.ref a1), (.int p1)] below meth c s₁ [] 0 0 := Stand.of_body Bd
  have e0 : s₁.heap = h0 := by rw [← hh, Bd.state]; rfl
  show own_E p e below (own_K (own_add16_Q Z a1 a2 kc1 p1 ea0 ea1 ea2 ea3 ea4 ea5 ea6 ea7 ea8 ea9 ea10 ea11 ea12 ea13 ea14 ea15 h0 n0) s ({ frames := 2, cells := 1, slots := 32, locals := 55 } : Room).cells ({ frames := 2, cells := 1, slots := 32, locals := 55 } : Room).slots) s₁ (entryFrame m #[(.ref a1), (.int p1)] 2)
  refine own_pre (own_add16_ef m a1 a2 kc1 p1 ea0 ea1 ea2 ea3 ea4 ea5 ea6 ea7 ea8 ea9 ea10 ea11 ea12 ea13 ea14 ea15) ?_
  show own_E p e below _ s₁ (mkF m 0 #[rv a1, iv p1] [])
  refine own_st (fun t k => XS.aloadN X0.here hx rfl (hb hby own_d_prog_14_method_2_0) rfl rfl k) ?_
  show own_E p e below _ s₁ (mkF m 1 #[rv a1, iv p1] [.ref a1])
  obtain ⟨T1, X1, e1, st1⟩ := getF X0 hx hZ hown (host := "") (Or.inl (own_w hw 18 rfl)) Via.refl e0 F_size_a1 (g := (mkF m 1 #[rv a1, iv p1] [.ref a1])) rfl rfl (hb hby own_d_prog_14_method_2_1)
  refine own_st st1 ?_
  show own_E p e below _ T1 (mkF m 4 #[rv a1, iv p1] [.int 16])
  refine own_st (fun t k => XS.aloadN X1.here hx rfl (hb hby own_d_prog_14_method_2_4) rfl rfl k) ?_
  show own_E p e below _ T1 (mkF m 5 #[rv a1, iv p1] [.ref a1, .int 16])
  obtain ⟨T2, X2, e2, st2⟩ := getF X1 hx hZ hown (host := "") (Or.inl (own_w hw 11 rfl)) Via.refl e1 F_values_a1 (g := (mkF m 5 #[rv a1, iv p1] [.ref a1, .int 16])) rfl rfl (hb hby own_d_prog_14_method_2_5)
  refine own_st st2 ?_
  show own_E p e below _ T2 (mkF m 8 #[rv a1, iv p1] [.ref a2, .int 16])
  refine own_st (own_alen X2 hx hZ e2 V_a2 (g := (mkF m 8 #[rv a1, iv p1] [.ref a2, .int 16])) rfl rfl (hb hby own_d_prog_14_method_2_8)) ?_
  show own_E p e below _ T2 (mkF m 9 #[rv a1, iv p1] [.int 16, .int 16])
  refine own_st (fun t k => XS.icmpNo X2.here hx rfl (hb hby own_d_prog_14_method_2_9) rfl (by decide) k) ?_
  show own_E p e below _ T2 (mkF m 12 #[rv a1, iv p1] [])
  refine own_st (fun t k => XS.aloadN X2.here hx rfl (hb hby own_d_prog_14_method_2_12) rfl rfl k) ?_
  show own_E p e below _ T2 (mkF m 13 #[rv a1, iv p1] [.ref a1])
  refine own_st (fun t k => XS.aloadN X2.here hx rfl (hb hby own_d_prog_14_method_2_13) rfl rfl k) ?_
  show own_E p e below _ T2 (mkF m 14 #[rv a1, iv p1] [.ref a1, .ref a1])
  obtain ⟨T3, X3, e3, st3⟩ := getF X2 hx hZ hown (host := "") (Or.inl (own_w hw 11 rfl)) Via.refl e2 F_values_a1 (g := (mkF m 14 #[rv a1, iv p1] [.ref a1, .ref a1])) rfl rfl (hb hby own_d_prog_14_method_2_14)
  refine own_st st3 ?_
  show own_E p e below _ T3 (mkF m 17 #[rv a1, iv p1] [.ref a2, .ref a1])
  refine own_st (fun t k => XS.iconst X3.here hx rfl (hb hby own_d_prog_14_method_2_17) k) ?_
  show own_E p e below _ T3 (mkF m 18 #[rv a1, iv p1] [.int 2, .ref a2, .ref a1])
  refine own_st (fun t k => XS.aloadN X3.here hx rfl (hb hby own_d_prog_14_method_2_18) rfl rfl k) ?_
  show own_E p e below _ T3 (mkF m 19 #[rv a1, iv p1] [.ref a1, .int 2, .ref a2, .ref a1])
  obtain ⟨T4, X4, e4, st4⟩ := getF X3 hx hZ hown (host := "") (Or.inl (own_w hw 18 rfl)) Via.refl e3 F_size_a1 (g := (mkF m 19 #[rv a1, iv p1] [.ref a1, .int 2, .ref a2, .ref a1])) rfl rfl (hb hby own_d_prog_14_method_2_19)
  refine own_st st4 ?_
  show own_E p e below _ T4 (mkF m 22 #[rv a1, iv p1] [.int 16, .int 2, .ref a2, .ref a1])
  refine own_st (fun t k => XS.imul X4.here hx rfl (hb hby own_d_prog_14_method_2_22) rfl k) ?_
  show own_E p e below _ T4 (mkF m 23 #[rv a1, iv p1] [.int 32, .ref a2, .ref a1])
  obtain ⟨_, _, ⟨T5, L5, k5, n5⟩, -, X5, ⟨Lc5, hQ5, l5, y5, z5⟩, st5⟩ := Jvm.LawKit.callS X4 hx (y := own_y1) hown (mvT hZ (own_w hw 40 rfl)) (mvT hZ (own_w hw 41 rfl)) (mvT hZ (own_w hw 42 rfl)) (mvT hZ (own_w hw 43 rfl)) (by decide) (backOf (W := 1) (own_copy l Z a0 hw [] a2 kc1 ea0 ea1 ea2 ea3 ea4 ea5 ea6 ea7 ea8 ea9 ea10 ea11 ea12 ea13 ea14 ea15 h0 n0 Z0 V_a2) hZ (own_w hw 43 rfl) (own_w hw 42 rfl) (by decide) (by decide)) (g := (mkF m 23 #[rv a1, iv p1] [.int 32, .ref a2, .ref a1])) rfl (by rw [hml]; rfl) (argsL := [(.ref a2), (.int (32 : Int32))]) (rest := [(.ref a1)]) (lenOf own_pd_8 rfl) rfl (by show 2 * 0 + _ ≤ _; exact Nat.le_of_eq rfl) (hb hby own_d_prog_14_method_2_23) (fun _ _ => ⟨rfl, e4, (by decide : 0 + 1 ≤ _), (by decide : 0 + 32 ≤ _)⟩)
  dsimp only [Pt.U, Pt.locs, Pt.cells, Pt.slots] at X5 l5 y5 z5 st5 hQ5
  subst l5 y5 z5
  obtain ⟨b5_o0, k5_o1, rfl, Nq5, Kq5, sz5_0, P5_0⟩ := hQ5
  have N5 := Fr.app (Fr.nil n0) Nq5
  have ne_a1_b5_o0 : a1 ≠ b5_o0 := Nat.ne_of_lt (Nat.lt_of_lt_of_le E_a1.lt sz5_0)
  have ne_a2_b5_o0 : a2 ≠ b5_o0 := Nat.ne_of_lt (Nat.lt_of_lt_of_le V_a2.lt sz5_0)
  have g_b5_o0 : n0 ≤ b5_o0 := Nat.le_trans Z0 sz5_0
  have sz_b5_o0 : h0.size ≤ b5_o0 := Nat.le_trans (Keep.refl h0 [a1]).1 sz5_0
  have e5 : T5.heap = T5.heap := rfl
  have Z6 := Nat.le_trans Z0 Kq5.1
  have K7 : Keep h0 _ [a1] := (Keep.refl h0 [a1]).trans Kq5 all0
  refine own_st st5 ?_
  show own_E p e below _ T5 (mkF m 26 #[rv a1, iv p1] [.ref b5_o0, .ref a1])
  have B9 := (F_values_a1.keep Kq5 nin0)
  have B10 := (E_a1.keep Kq5)
  obtain ⟨T8, h8, X8, e8, W8, st8⟩ := putF X5 hx hZ hown (host := "") (Or.inl (own_w hw 11 rfl)) Via.refl e5 B9 B10 (Or.inl (own_w hw 12 rfl)) (own_w hw 2 rfl) (ty := (.array .int)) (by decide) rfl rfl (g := (mkF m 26 #[rv a1, iv p1] [.ref b5_o0, .ref a1])) rfl rfl (hb hby own_d_prog_14_method_2_26)
  have N8 := Fr.snoc X8 N5 g_a1
  have Fw8 := B9.same W8
  have Z11 := Nat.le_trans Z6 (Keep.of_wr W8).1
  have K12 : Keep h0 _ [a1] := K7.wr W8 (Or.inl (List.mem_of_getElem? (i := 0) rfl))
  refine own_st st8 ?_
  show own_E p e below _ T8 (mkF m 29 #[rv a1, iv p1] [])
  refine own_st (fun t k => XS.aloadN X8.here hx rfl (hb hby own_d_prog_14_method_2_29) rfl rfl k) ?_
  show own_E p e below _ T8 (mkF m 30 #[rv a1, iv p1] [.ref a1])
  obtain ⟨T13, X13, e13, st13⟩ := getF X8 hx hZ hown (host := "") (Or.inl (own_w hw 11 rfl)) Via.refl e8 Fw8 (g := (mkF m 30 #[rv a1, iv p1] [.ref a1])) rfl rfl (hb hby own_d_prog_14_method_2_30)
  refine own_st st13 ?_
  show own_E p e below _ T13 (mkF m 33 #[rv a1, iv p1] [.ref b5_o0])
  refine own_st (fun t k => XS.aloadN X13.here hx rfl (hb hby own_d_prog_14_method_2_33) rfl rfl k) ?_
  show own_E p e below _ T13 (mkF m 34 #[rv a1, iv p1] [.ref a1, .ref b5_o0])
  refine own_st (fun t k => XS.dup X13.here hx rfl (hb hby own_d_prog_14_method_2_34) rfl rfl k) ?_
  show own_E p e below _ T13 (mkF m 35 #[rv a1, iv p1] [.ref a1, .ref a1, .ref b5_o0])
  have B15 := ((F_size_a1.keep Kq5 nin0).other W8 (Or.inr (slot_ne (Or.inl (own_w hw 19 rfl)) (Or.inl (own_w hw 12 rfl)) (by decide) (t := .int) (t' := (.array .int)) (by decide) (by decide))))
  obtain ⟨T14, X14, e14, st14⟩ := getF X13 hx hZ hown (host := "") (Or.inl (own_w hw 18 rfl)) Via.refl e13 B15 (g := (mkF m 35 #[rv a1, iv p1] [.ref a1, .ref a1, .ref b5_o0])) rfl rfl (hb hby own_d_prog_14_method_2_35)
  refine own_st st14 ?_
  show own_E p e below _ T14 (mkF m 38 #[rv a1, iv p1] [.int 16, .ref a1, .ref b5_o0])
  refine own_st (fun t k => XS.dupX1 X14.here hx rfl (hb hby own_d_prog_14_method_2_38) rfl rfl rfl k) ?_
  show own_E p e below _ T14 (mkF m 39 #[rv a1, iv p1] [.int 16, .ref a1, .int 16, .ref b5_o0])
  refine own_st (fun t k => XS.iconst X14.here hx rfl (hb hby own_d_prog_14_method_2_39) k) ?_
  show own_E p e below _ T14 (mkF m 40 #[rv a1, iv p1] [.int 1, .int 16, .ref a1, .int 16, .ref b5_o0])
  refine own_st (fun t k => XS.iadd X14.here hx rfl (hb hby own_d_prog_14_method_2_40) rfl k) ?_
  show own_E p e below _ T14 (mkF m 41 #[rv a1, iv p1] [.int 17, .ref a1, .int 16, .ref b5_o0])
  have B17 := (B10.wr W8)
  obtain ⟨T16, h16, X16, e16, W16, st16⟩ := putF X14 hx hZ hown (host := "") (Or.inl (own_w hw 18 rfl)) Via.refl e14 B15 B17 (Or.inl (own_w hw 19 rfl)) (own_w hw 2 rfl) (ty := .int) (by decide) rfl rfl (g := (mkF m 41 #[rv a1, iv p1] [.int 17, .ref a1, .int 16, .ref b5_o0])) rfl rfl (hb hby own_d_prog_14_method_2_41)
  have N16 := Fr.snoc X16 N8 g_a1
  have Fw16 := B15.same W16
  have Z18 := Nat.le_trans Z11 (Keep.of_wr W16).1
  have K19 : Keep h0 _ [a1] := K12.wr W16 (Or.inl (List.mem_of_getElem? (i := 0) rfl))
  refine own_st st16 ?_
  show own_E p e below _ T16 (mkF m 44 #[rv a1, iv p1] [.int 16, .ref b5_o0])
  refine own_st (fun t k => XS.iloadN X16.here hx rfl (hb hby own_d_prog_14_method_2_44) rfl k) ?_
  show own_E p e below _ T16 (mkF m 45 #[rv a1, iv p1] [.int p1, .int 16, .ref b5_o0])
  have B20 := ((P5_0.other W8 (Ne.symm ne_a1_b5_o0)).other W16 (Ne.symm ne_a1_b5_o0))
  obtain ⟨T21, h21, X21, e21, W21, Vw21, st21⟩ := own_ast X16 hx hZ e16 B20 (j := (16 : Int32)) ⟨by decide, by decide⟩ (x := p1) (i := 16) rfl (Nat.le_of_ble_eq_true rfl) (g := (mkF m 45 #[rv a1, iv p1] [.int p1, .int 16, .ref b5_o0])) rfl rfl (hb hby own_d_prog_14_method_2_45)
  have V21 : Arv Z h21 b5_o0 k5_o1 .int (32 : Int32) [(.int ea0), (.int ea1), (.int ea2), (.int ea3), (.int ea4), (.int ea5), (.int ea6), (.int ea7), (.int ea8), (.int ea9), (.int ea10), (.int ea11), (.int ea12), (.int ea13), (.int ea14), (.int ea15), (.int p1), (.int (0 : Int32)), (.int (0 : Int32)), (.int (0 : Int32)), (.int (0 : Int32)), (.int (0 : Int32)), (.int (0 : Int32)), (.int (0 : Int32)), (.int (0 : Int32)), (.int (0 : Int32)), (.int (0 : Int32)), (.int (0 : Int32)), (.int (0 : Int32)), (.int (0 : Int32)), (.int (0 : Int32)), (.int (0 : Int32))] (.int (0 : Int32)) := Vw21
  have N21 := Fr.snoc X21 N16 g_b5_o0
  have Z22 := Nat.le_trans Z18 (Keep.of_wr W21).1
  have K23 : Keep h0 _ [a1] := K19.wr W21 (Or.inr sz_b5_o0)
  refine own_st st21 ?_
  show own_E p e below _ T21 (mkF m 46 #[rv a1, iv p1] [])
  refine own_retV X21 hx Bd.notSynchronized Bd.returns (hb hby own_d_prog_14_method_2_46) (by decide) (by decide) ?_
  have B24 := ((B17.wr W16).wr W21)
  have B25 := ((Fw8.other W16 (Or.inr (slot_ne (Or.inl (own_w hw 12 rfl)) (Or.inl (own_w hw 19 rfl)) (by decide) (t := (.array .int)) (t' := .int) (by decide) (by decide)))).other W21 (Or.inl ne_a1_b5_o0))
  have B26 := (Fw16.other W21 (Or.inl ne_a1_b5_o0))
  show own_add16_Q Z a1 a2 kc1 p1 ea0 ea1 ea2 ea3 ea4 ea5 ea6 ea7 ea8 ea9 ea10 ea11 ea12 ea13 ea14 ea15 h0 n0 _ T21.heap _
  rw [e21]
  exact ⟨b5_o0, k5_o1, rfl, N21, K23, sz_b5_o0, B24, B25, B26, V21⟩
def own_add17_Q (Z : State) (a1 : Addr) (a2 : Addr) (kc1 : ClassId) (p1 : Int32) (ea0 : Int32) (ea1 : Int32) (ea2 : Int32) (ea3 : Int32) (ea4 : Int32) (ea5 : Int32) (ea6 : Int32) (ea7 : Int32) (ea8 : Int32) (ea9 : Int32) (ea10 : Int32) (ea11 : Int32) (ea12 : Int32) (ea13 : Int32) (ea14 : Int32) (ea15 : Int32) (ea16 : Int32) (ea17 : Int32) (ea18 : Int32) (ea19 : Int32) (ea20 : Int32) (ea21 : Int32) (ea22 : Int32) (ea23 : Int32) (ea24 : Int32) (ea25 : Int32) (ea26 : Int32) (ea27 : Int32) (ea28 : Int32) (ea29 : Int32) (ea30 : Int32) (ea31 : Int32) (h0 : Heap) (n0 : Nat) (v : Option Value) (h : Heap) (L : List Loc) : Prop := v = none ∧ Fr n0 L ∧ Keep h0 h [a1, a2] ∧ Exa Z h a1 "com/example/kalchas/kalchas/IntList" ∧ Fld Z h a1 "com/example/kalchas/kalchas/IntList" "values" "[I" (.ref a2) ∧ Fld Z h a1 "com/example/kalchas/kalchas/IntList" "size" "I" (.int (18 : Int32)) ∧ Arv Z h a2 kc1 .int (32 : Int32) [(.int ea0), (.int ea1), (.int ea2), (.int ea3), (.int ea4), (.int ea5), (.int ea6), (.int ea7), (.int ea8), (.int ea9), (.int ea10), (.int ea11), (.int ea12), (.int ea13), (.int ea14), (.int ea15), (.int ea16), (.int p1), (.int ea18), (.int ea19), (.int ea20), (.int ea21), (.int ea22), (.int ea23), (.int ea24), (.int ea25), (.int ea26), (.int ea27), (.int ea28), (.int ea29), (.int ea30), (.int ea31)] (.int (0 : Int32))
theorem own_add17_ef (m : MethodId) (a1 : Addr) (a2 : Addr) (kc1 : ClassId) (p1 : Int32) (ea0 : Int32) (ea1 : Int32) (ea2 : Int32) (ea3 : Int32) (ea4 : Int32) (ea5 : Int32) (ea6 : Int32) (ea7 : Int32) (ea8 : Int32) (ea9 : Int32) (ea10 : Int32) (ea11 : Int32) (ea12 : Int32) (ea13 : Int32) (ea14 : Int32) (ea15 : Int32) (ea16 : Int32) (ea17 : Int32) (ea18 : Int32) (ea19 : Int32) (ea20 : Int32) (ea21 : Int32) (ea22 : Int32) (ea23 : Int32) (ea24 : Int32) (ea25 : Int32) (ea26 : Int32) (ea27 : Int32) (ea28 : Int32) (ea29 : Int32) (ea30 : Int32) (ea31 : Int32) : entryFrame m #[(.ref a1), (.int p1)] 2 = mkF m 0 #[.val (.ref a1), .val (.int p1)] [] := by first | (simp [entryFrame, mkF, argsToLocals, Value.category]; done) | rfl
set_option maxRecDepth 65536 in
set_option maxHeartbeats 40000000 in
theorem own_add17 (l : Launch) (Z : State) (a0 : Array Value) (hw : ∀ d ∈ tables_1, d.before a0 Z = true) (ws : List Jvm.Cond) (a1 : Addr) (a2 : Addr) (kc1 : ClassId) (p1 : Int32) (ea0 : Int32) (ea1 : Int32) (ea2 : Int32) (ea3 : Int32) (ea4 : Int32) (ea5 : Int32) (ea6 : Int32) (ea7 : Int32) (ea8 : Int32) (ea9 : Int32) (ea10 : Int32) (ea11 : Int32) (ea12 : Int32) (ea13 : Int32) (ea14 : Int32) (ea15 : Int32) (ea16 : Int32) (ea17 : Int32) (ea18 : Int32) (ea19 : Int32) (ea20 : Int32) (ea21 : Int32) (ea22 : Int32) (ea23 : Int32) (ea24 : Int32) (ea25 : Int32) (ea26 : Int32) (ea27 : Int32) (ea28 : Int32) (ea29 : Int32) (ea30 : Int32) (ea31 : Int32) (h0 : Heap) (n0 : Nat) (Z0 : n0 ≤ h0.size) (E_a1 : Exa Z h0 a1 "com/example/kalchas/kalchas/IntList") (F_values_a1 : Fld Z h0 a1 "com/example/kalchas/kalchas/IntList" "values" "[I" (.ref a2)) (F_size_a1 : Fld Z h0 a1 "com/example/kalchas/kalchas/IntList" "size" "I" (.int (17 : Int32))) (V_a2 : Arv Z h0 a2 kc1 .int (32 : Int32) [(.int ea0), (.int ea1), (.int ea2), (.int ea3), (.int ea4), (.int ea5), (.int ea6), (.int ea7), (.int ea8), (.int ea9), (.int ea10), (.int ea11), (.int ea12), (.int ea13), (.int ea14), (.int ea15), (.int ea16), (.int ea17), (.int ea18), (.int ea19), (.int ea20), (.int ea21), (.int ea22), (.int ea23), (.int ea24), (.int ea25), (.int ea26), (.int ea27), (.int ea28), (.int ea29), (.int ea30), (.int ea31)] (.int (0 : Int32))) (ne12 : a1 ≠ a2) (g_a1 : n0 ≤ a1) (g_a2 : n0 ≤ a2) :
    MetFree l own_y5 (head1 (Jvm.Cond.code own_y5 prog_14_method_2_code 2 none :: ws) ({ frames := 0, cells := 0, slots := 0, locals := 0 } : Room)) (fun a U => a = #[(.ref a1), (.int p1)] ∧ Z.Warmed39 U.vm ∧ U.heap = h0) (fun _ _ _ _ _ => True) (fun _ U o U' => ∃ v L, o = .returned v ∧ own_add17_Q Z a1 a2 kc1 p1 ea0 ea1 ea2 ea3 ea4 ea5 ea6 ea7 ea8 ea9 ea10 ea11 ea12 ea13 ea14 ea15 ea16 ea17 ea18 ea19 ea20 ea21 ea22 ea23 ea24 ea25 ea26 ea27 ea28 ea29 ea30 ea31 h0 n0 v U'.heap L ∧ FrameEnd U o U' L ({ frames := 0, cells := 0, slots := 0, locals := 0 } : Room).cells ({ frames := 0, cells := 0, slots := 0, locals := 0 } : Room).slots) := by
  refine MetFree.of_bodySF (plainFor_of_name own_pn_IntList) hisR ?_
  intro p e s m args below meth c s₁ Bd hml0 hP hK
  obtain ⟨rfl, hZ, hh⟩ := hP
  have hx := Bd.exec
  have hby := Bd.bytes
  have hml : c.maxLocals = 2 := hml0
  have hown : s.vm.findClass "com/example/kalchas/kalchas/IntList" = some m.cls := findClass_of_methodNamed Bd.named
  have hnm := (name_of_methodNamed Bd.named Bd.method).1
  have X0 : Stand p l e ({ frames := 0, cells := 0, slots := 0, locals := 0 } : Room) s m #[(.ref a1), (.int p1)] below meth c s₁ [] 0 0 := Stand.of_body Bd
  have e0 : s₁.heap = h0 := by rw [← hh, Bd.state]; rfl
  show own_E p e below (own_K (own_add17_Q Z a1 a2 kc1 p1 ea0 ea1 ea2 ea3 ea4 ea5 ea6 ea7 ea8 ea9 ea10 ea11 ea12 ea13 ea14 ea15 ea16 ea17 ea18 ea19 ea20 ea21 ea22 ea23 ea24 ea25 ea26 ea27 ea28 ea29 ea30 ea31 h0 n0) s ({ frames := 0, cells := 0, slots := 0, locals := 0 } : Room).cells ({ frames := 0, cells := 0, slots := 0, locals := 0 } : Room).slots) s₁ (entryFrame m #[(.ref a1), (.int p1)] 2)
  refine own_pre (own_add17_ef m a1 a2 kc1 p1 ea0 ea1 ea2 ea3 ea4 ea5 ea6 ea7 ea8 ea9 ea10 ea11 ea12 ea13 ea14 ea15 ea16 ea17 ea18 ea19 ea20 ea21 ea22 ea23 ea24 ea25 ea26 ea27 ea28 ea29 ea30 ea31) ?_
  show own_E p e below _ s₁ (mkF m 0 #[rv a1, iv p1] [])
  refine own_st (fun t k => XS.aloadN X0.here hx rfl (hb hby own_d_prog_14_method_2_0) rfl rfl k) ?_
  show own_E p e below _ s₁ (mkF m 1 #[rv a1, iv p1] [.ref a1])
  obtain ⟨T1, X1, e1, st1⟩ := getF X0 hx hZ hown (host := "") (Or.inl (own_w hw 18 rfl)) Via.refl e0 F_size_a1 (g := (mkF m 1 #[rv a1, iv p1] [.ref a1])) rfl rfl (hb hby own_d_prog_14_method_2_1)
  refine own_st st1 ?_
  show own_E p e below _ T1 (mkF m 4 #[rv a1, iv p1] [.int 17])
  refine own_st (fun t k => XS.aloadN X1.here hx rfl (hb hby own_d_prog_14_method_2_4) rfl rfl k) ?_
  show own_E p e below _ T1 (mkF m 5 #[rv a1, iv p1] [.ref a1, .int 17])
  obtain ⟨T2, X2, e2, st2⟩ := getF X1 hx hZ hown (host := "") (Or.inl (own_w hw 11 rfl)) Via.refl e1 F_values_a1 (g := (mkF m 5 #[rv a1, iv p1] [.ref a1, .int 17])) rfl rfl (hb hby own_d_prog_14_method_2_5)
  refine own_st st2 ?_
  show own_E p e below _ T2 (mkF m 8 #[rv a1, iv p1] [.ref a2, .int 17])
  refine own_st (own_alen X2 hx hZ e2 V_a2 (g := (mkF m 8 #[rv a1, iv p1] [.ref a2, .int 17])) rfl rfl (hb hby own_d_prog_14_method_2_8)) ?_
  show own_E p e below _ T2 (mkF m 9 #[rv a1, iv p1] [.int 32, .int 17])
  refine own_st (fun t k => XS.icmpYes X2.here hx rfl (pc0 := 9) (pc' := 29) rfl (hb hby own_d_prog_14_method_2_9) rfl (by decide) (by decide) (by decide) k) ?_
  show own_E p e below _ T2 (mkF m 29 #[rv a1, iv p1] [])
  refine own_st (fun t k => XS.aloadN X2.here hx rfl (hb hby own_d_prog_14_method_2_29) rfl rfl k) ?_
  show own_E p e below _ T2 (mkF m 30 #[rv a1, iv p1] [.ref a1])
  obtain ⟨T3, X3, e3, st3⟩ := getF X2 hx hZ hown (host := "") (Or.inl (own_w hw 11 rfl)) Via.refl e2 F_values_a1 (g := (mkF m 30 #[rv a1, iv p1] [.ref a1])) rfl rfl (hb hby own_d_prog_14_method_2_30)
  refine own_st st3 ?_
  show own_E p e below _ T3 (mkF m 33 #[rv a1, iv p1] [.ref a2])
  refine own_st (fun t k => XS.aloadN X3.here hx rfl (hb hby own_d_prog_14_method_2_33) rfl rfl k) ?_
  show own_E p e below _ T3 (mkF m 34 #[rv a1, iv p1] [.ref a1, .ref a2])
  refine own_st (fun t k => XS.dup X3.here hx rfl (hb hby own_d_prog_14_method_2_34) rfl rfl k) ?_
  show own_E p e below _ T3 (mkF m 35 #[rv a1, iv p1] [.ref a1, .ref a1, .ref a2])
  obtain ⟨T4, X4, e4, st4⟩ := getF X3 hx hZ hown (host := "") (Or.inl (own_w hw 18 rfl)) Via.refl e3 F_size_a1 (g := (mkF m 35 #[rv a1, iv p1] [.ref a1, .ref a1, .ref a2])) rfl rfl (hb hby own_d_prog_14_method_2_35)
  refine own_st st4 ?_
  show own_E p e below _ T4 (mkF m 38 #[rv a1, iv p1] [.int 17, .ref a1, .ref a2])
  refine own_st (fun t k => XS.dupX1 X4.here hx rfl (hb hby own_d_prog_14_method_2_38) rfl rfl rfl k) ?_
  show own_E p e below _ T4 (mkF m 39 #[rv a1, iv p1] [.int 17, .ref a1, .int 17, .ref a2])
  refine own_st (fun t k => XS.iconst X4.here hx rfl (hb hby own_d_prog_14_method_2_39) k) ?_
  show own_E p e below _ T4 (mkF m 40 #[rv a1, iv p1] [.int 1, .int 17, .ref a1, .int 17, .ref a2])
  refine own_st (fun t k => XS.iadd X4.here hx rfl (hb hby own_d_prog_14_method_2_40) rfl k) ?_
  show own_E p e below _ T4 (mkF m 41 #[rv a1, iv p1] [.int 18, .ref a1, .int 17, .ref a2])
  obtain ⟨T5, h5, X5, e5, W5, st5⟩ := putF X4 hx hZ hown (host := "") (Or.inl (own_w hw 18 rfl)) Via.refl e4 F_size_a1 E_a1 (Or.inl (own_w hw 19 rfl)) (own_w hw 2 rfl) (ty := .int) (by decide) rfl rfl (g := (mkF m 41 #[rv a1, iv p1] [.int 18, .ref a1, .int 17, .ref a2])) rfl rfl (hb hby own_d_prog_14_method_2_41)
  have N5 := Fr.snoc X5 (Fr.nil n0) g_a1
  have Fw5 := F_size_a1.same W5
  have Z6 := Nat.le_trans Z0 (Keep.of_wr W5).1
  have K7 : Keep h0 _ [a1, a2] := (Keep.refl h0 [a1, a2]).wr W5 (Or.inl (List.mem_of_getElem? (i := 0) rfl))
  refine own_st st5 ?_
  show own_E p e below _ T5 (mkF m 44 #[rv a1, iv p1] [.int 17, .ref a2])
  refine own_st (fun t k => XS.iloadN X5.here hx rfl (hb hby own_d_prog_14_method_2_44) rfl k) ?_
  show own_E p e below _ T5 (mkF m 45 #[rv a1, iv p1] [.int p1, .int 17, .ref a2])
  have B8 := (V_a2.other W5 (Ne.symm ne12))
  obtain ⟨T9, h9, X9, e9, W9, Vw9, st9⟩ := own_ast X5 hx hZ e5 B8 (j := (17 : Int32)) ⟨by decide, by decide⟩ (x := p1) (i := 17) rfl (Nat.le_of_ble_eq_true rfl) (g := (mkF m 45 #[rv a1, iv p1] [.int p1, .int 17, .ref a2])) rfl rfl (hb hby own_d_prog_14_method_2_45)
  have V9 : Arv Z h9 a2 kc1 .int (32 : Int32) [(.int ea0), (.int ea1), (.int ea2), (.int ea3), (.int ea4), (.int ea5), (.int ea6), (.int ea7), (.int ea8), (.int ea9), (.int ea10), (.int ea11), (.int ea12), (.int ea13), (.int ea14), (.int ea15), (.int ea16), (.int p1), (.int ea18), (.int ea19), (.int ea20), (.int ea21), (.int ea22), (.int ea23), (.int ea24), (.int ea25), (.int ea26), (.int ea27), (.int ea28), (.int ea29), (.int ea30), (.int ea31)] (.int (0 : Int32)) := Vw9
  have N9 := Fr.snoc X9 N5 g_a2
  have Z10 := Nat.le_trans Z6 (Keep.of_wr W9).1
  have K11 : Keep h0 _ [a1, a2] := K7.wr W9 (Or.inl (List.mem_of_getElem? (i := 1) rfl))
  refine own_st st9 ?_
  show own_E p e below _ T9 (mkF m 46 #[rv a1, iv p1] [])
  refine own_retV X9 hx Bd.notSynchronized Bd.returns (hb hby own_d_prog_14_method_2_46) (by decide) (by decide) ?_
  have B12 := ((E_a1.wr W5).wr W9)
  have B13 := ((F_values_a1.other W5 (Or.inr (slot_ne (Or.inl (own_w hw 12 rfl)) (Or.inl (own_w hw 19 rfl)) (by decide) (t := (.array .int)) (t' := .int) (by decide) (by decide)))).other W9 (Or.inl ne12))
  have B14 := (Fw5.other W9 (Or.inl ne12))
  show own_add17_Q Z a1 a2 kc1 p1 ea0 ea1 ea2 ea3 ea4 ea5 ea6 ea7 ea8 ea9 ea10 ea11 ea12 ea13 ea14 ea15 ea16 ea17 ea18 ea19 ea20 ea21 ea22 ea23 ea24 ea25 ea26 ea27 ea28 ea29 ea30 ea31 h0 n0 _ T9.heap _
  rw [e9]
  exact ⟨rfl, N9, K11, B12, B13, B14, V9⟩
theorem own_d_prog_14_method_5_0 : decode prog_14_method_5_code 0 = .ok (.aload_n 0, 1) := by decide +kernel
theorem own_d_prog_14_method_5_1 : decode prog_14_method_5_code 1 = .ok (.getfield 7, 3) := by decide +kernel
theorem own_d_prog_14_method_5_4 : decode prog_14_method_5_code 4 = .ok (.iload_n 1, 1) := by decide +kernel
theorem own_d_prog_14_method_5_5 : decode prog_14_method_5_code 5 = .ok (.iaload, 1) := by decide +kernel
theorem own_d_prog_14_method_5_6 : decode prog_14_method_5_code 6 = .ok (.ireturn, 1) := by decide +kernel
def own_get16_0_Q (a1 : Addr) (a2 : Addr) (kc1 : ClassId) (ea0 : Int32) (ea1 : Int32) (ea2 : Int32) (ea3 : Int32) (ea4 : Int32) (ea5 : Int32) (ea6 : Int32) (ea7 : Int32) (ea8 : Int32) (ea9 : Int32) (ea10 : Int32) (ea11 : Int32) (ea12 : Int32) (ea13 : Int32) (ea14 : Int32) (ea15 : Int32) (h0 : Heap) (v : Option Value) (h : Heap) (L : List Loc) : Prop := ((v = some (.int ea0))) ∧ h = h0 ∧ L = []
abbrev own_y6 : MethodName := ⟨"com/example/kalchas/kalchas/IntList", "get", "(I)I"⟩
theorem own_get16_0_ef (m : MethodId) (a1 : Addr) (a2 : Addr) (kc1 : ClassId) (ea0 : Int32) (ea1 : Int32) (ea2 : Int32) (ea3 : Int32) (ea4 : Int32) (ea5 : Int32) (ea6 : Int32) (ea7 : Int32) (ea8 : Int32) (ea9 : Int32) (ea10 : Int32) (ea11 : Int32) (ea12 : Int32) (ea13 : Int32) (ea14 : Int32) (ea15 : Int32) : entryFrame m #[(.ref a1), (.int (0 : Int32))] 2 = mkF m 0 #[.val (.ref a1), .val (.int (0 : Int32))] [] := by first | (simp [entryFrame, mkF, argsToLocals, Value.category]; done) | rfl
set_option maxRecDepth 65536 in
set_option maxHeartbeats 40000000 in
theorem own_get16_0 (l : Launch) (Z : State) (a0 : Array Value) (hw : ∀ d ∈ tables_1, d.before a0 Z = true) (ws : List Jvm.Cond) (a1 : Addr) (a2 : Addr) (kc1 : ClassId) (ea0 : Int32) (ea1 : Int32) (ea2 : Int32) (ea3 : Int32) (ea4 : Int32) (ea5 : Int32) (ea6 : Int32) (ea7 : Int32) (ea8 : Int32) (ea9 : Int32) (ea10 : Int32) (ea11 : Int32) (ea12 : Int32) (ea13 : Int32) (ea14 : Int32) (ea15 : Int32) (h0 : Heap) (n0 : Nat) (Z0 : n0 ≤ h0.size) (F_values_a1 : Fld Z h0 a1 "com/example/kalchas/kalchas/IntList" "values" "[I" (.ref a2)) (V_a2 : Arv Z h0 a2 kc1 .int (16 : Int32) [(.int ea0), (.int ea1), (.int ea2), (.int ea3), (.int ea4), (.int ea5), (.int ea6), (.int ea7), (.int ea8), (.int ea9), (.int ea10), (.int ea11), (.int ea12), (.int ea13), (.int ea14), (.int ea15)] (.int (0 : Int32))) :
    MetFree l own_y6 (head1 (Jvm.Cond.code own_y6 prog_14_method_5_code 2 (some .int) :: ws) ({ frames := 0, cells := 0, slots := 0, locals := 0 } : Room)) (fun a U => a = #[(.ref a1), (.int (0 : Int32))] ∧ Z.Warmed39 U.vm ∧ U.heap = h0) (fun _ _ _ _ _ => True) (fun _ U o U' => ∃ v L, o = .returned v ∧ own_get16_0_Q a1 a2 kc1 ea0 ea1 ea2 ea3 ea4 ea5 ea6 ea7 ea8 ea9 ea10 ea11 ea12 ea13 ea14 ea15 h0 v U'.heap L ∧ FrameEnd U o U' L ({ frames := 0, cells := 0, slots := 0, locals := 0 } : Room).cells ({ frames := 0, cells := 0, slots := 0, locals := 0 } : Room).slots) := by
  refine MetFree.of_bodySF (plainFor_of_name own_pn_IntList) hisR ?_
  intro p e s m args below meth c s₁ Bd hml0 hP hK
  obtain ⟨rfl, hZ, hh⟩ := hP
  have hx := Bd.exec
  have hby := Bd.bytes
  have hml : c.maxLocals = 2 := hml0
  have hown : s.vm.findClass "com/example/kalchas/kalchas/IntList" = some m.cls := findClass_of_methodNamed Bd.named
  have hnm := (name_of_methodNamed Bd.named Bd.method).1
  have X0 : Stand p l e ({ frames := 0, cells := 0, slots := 0, locals := 0 } : Room) s m #[(.ref a1), (.int (0 : Int32))] below meth c s₁ [] 0 0 := Stand.of_body Bd
  have e0 : s₁.heap = h0 := by rw [← hh, Bd.state]; rfl
  show own_E p e below (own_K (own_get16_0_Q a1 a2 kc1 ea0 ea1 ea2 ea3 ea4 ea5 ea6 ea7 ea8 ea9 ea10 ea11 ea12 ea13 ea14 ea15 h0) s ({ frames := 0, cells := 0, slots := 0, locals := 0 } : Room).cells ({ frames := 0, cells := 0, slots := 0, locals := 0 } : Room).slots) s₁ (entryFrame m #[(.ref a1), (.int (0 : Int32))] 2)
  refine own_pre (own_get16_0_ef m a1 a2 kc1 ea0 ea1 ea2 ea3 ea4 ea5 ea6 ea7 ea8 ea9 ea10 ea11 ea12 ea13 ea14 ea15) ?_
  show own_E p e below _ s₁ (mkF m 0 #[rv a1, iv 0] [])
  refine own_st (fun t k => XS.aloadN X0.here hx rfl (hb hby own_d_prog_14_method_5_0) rfl rfl k) ?_
  show own_E p e below _ s₁ (mkF m 1 #[rv a1, iv 0] [.ref a1])
  obtain ⟨T1, X1, e1, st1⟩ := getF X0 hx hZ hown (host := "") (Or.inl (own_w hw 11 rfl)) Via.refl e0 F_values_a1 (g := (mkF m 1 #[rv a1, iv 0] [.ref a1])) rfl rfl (hb hby own_d_prog_14_method_5_1)
  refine own_st st1 ?_
  show own_E p e below _ T1 (mkF m 4 #[rv a1, iv 0] [.ref a2])
  refine own_st (fun t k => XS.iloadN X1.here hx rfl (hb hby own_d_prog_14_method_5_4) rfl k) ?_
  show own_E p e below _ T1 (mkF m 5 #[rv a1, iv 0] [.int 0, .ref a2])
  refine own_st (own_ald X1 hx hZ e1 V_a2 (j := (0 : Int32)) ⟨by decide, by decide⟩ (v := (.int ea0)) rfl (g := (mkF m 5 #[rv a1, iv 0] [.int 0, .ref a2])) rfl rfl (hb hby own_d_prog_14_method_5_5)) ?_
  show own_E p e below _ T1 (mkF m 6 #[rv a1, iv 0] [.int ea0])
  refine own_retI X1 hx Bd.notSynchronized Bd.returns (hb hby own_d_prog_14_method_5_6) (by decide) (by decide) ?_
  exact ⟨rfl, e1, rfl⟩
def own_get16_1_Q (a1 : Addr) (a2 : Addr) (kc1 : ClassId) (ea0 : Int32) (ea1 : Int32) (ea2 : Int32) (ea3 : Int32) (ea4 : Int32) (ea5 : Int32) (ea6 : Int32) (ea7 : Int32) (ea8 : Int32) (ea9 : Int32) (ea10 : Int32) (ea11 : Int32) (ea12 : Int32) (ea13 : Int32) (ea14 : Int32) (ea15 : Int32) (h0 : Heap) (v : Option Value) (h : Heap) (L : List Loc) : Prop := ((v = some (.int ea1))) ∧ h = h0 ∧ L = []
theorem own_get16_1_ef (m : MethodId) (a1 : Addr) (a2 : Addr) (kc1 : ClassId) (ea0 : Int32) (ea1 : Int32) (ea2 : Int32) (ea3 : Int32) (ea4 : Int32) (ea5 : Int32) (ea6 : Int32) (ea7 : Int32) (ea8 : Int32) (ea9 : Int32) (ea10 : Int32) (ea11 : Int32) (ea12 : Int32) (ea13 : Int32) (ea14 : Int32) (ea15 : Int32) : entryFrame m #[(.ref a1), (.int (1 : Int32))] 2 = mkF m 0 #[.val (.ref a1), .val (.int (1 : Int32))] [] := by first | (simp [entryFrame, mkF, argsToLocals, Value.category]; done) | rfl
set_option maxRecDepth 65536 in
set_option maxHeartbeats 40000000 in
theorem own_get16_1 (l : Launch) (Z : State) (a0 : Array Value) (hw : ∀ d ∈ tables_1, d.before a0 Z = true) (ws : List Jvm.Cond) (a1 : Addr) (a2 : Addr) (kc1 : ClassId) (ea0 : Int32) (ea1 : Int32) (ea2 : Int32) (ea3 : Int32) (ea4 : Int32) (ea5 : Int32) (ea6 : Int32) (ea7 : Int32) (ea8 : Int32) (ea9 : Int32) (ea10 : Int32) (ea11 : Int32) (ea12 : Int32) (ea13 : Int32) (ea14 : Int32) (ea15 : Int32) (h0 : Heap) (n0 : Nat) (Z0 : n0 ≤ h0.size) (F_values_a1 : Fld Z h0 a1 "com/example/kalchas/kalchas/IntList" "values" "[I" (.ref a2)) (V_a2 : Arv Z h0 a2 kc1 .int (16 : Int32) [(.int ea0), (.int ea1), (.int ea2), (.int ea3), (.int ea4), (.int ea5), (.int ea6), (.int ea7), (.int ea8), (.int ea9), (.int ea10), (.int ea11), (.int ea12), (.int ea13), (.int ea14), (.int ea15)] (.int (0 : Int32))) :
    MetFree l own_y6 (head1 (Jvm.Cond.code own_y6 prog_14_method_5_code 2 (some .int) :: ws) ({ frames := 0, cells := 0, slots := 0, locals := 0 } : Room)) (fun a U => a = #[(.ref a1), (.int (1 : Int32))] ∧ Z.Warmed39 U.vm ∧ U.heap = h0) (fun _ _ _ _ _ => True) (fun _ U o U' => ∃ v L, o = .returned v ∧ own_get16_1_Q a1 a2 kc1 ea0 ea1 ea2 ea3 ea4 ea5 ea6 ea7 ea8 ea9 ea10 ea11 ea12 ea13 ea14 ea15 h0 v U'.heap L ∧ FrameEnd U o U' L ({ frames := 0, cells := 0, slots := 0, locals := 0 } : Room).cells ({ frames := 0, cells := 0, slots := 0, locals := 0 } : Room).slots) := by
  refine MetFree.of_bodySF (plainFor_of_name own_pn_IntList) hisR ?_
  intro p e s m args below meth c s₁ Bd hml0 hP hK
  obtain ⟨rfl, hZ, hh⟩ := hP
  have hx := Bd.exec
  have hby := Bd.bytes
  have hml : c.maxLocals = 2 := hml0
  have hown : s.vm.findClass "com/example/kalchas/kalchas/IntList" = some m.cls := findClass_of_methodNamed Bd.named
  have hnm := (name_of_methodNamed Bd.named Bd.method).1
  have X0 : Stand p l e ({ frames := 0, cells := 0, slots := 0, locals := 0 } : Room) s m #[(.ref a1), (.int (1 : Int32))] below meth c s₁ [] 0 0 := Stand.of_body Bd
  have e0 : s₁.heap = h0 := by rw [← hh, Bd.state]; rfl
  show own_E p e below (own_K (own_get16_1_Q a1 a2 kc1 ea0 ea1 ea2 ea3 ea4 ea5 ea6 ea7 ea8 ea9 ea10 ea11 ea12 ea13 ea14 ea15 h0) s ({ frames := 0, cells := 0, slots := 0, locals := 0 } : Room).cells ({ frames := 0, cells := 0, slots := 0, locals := 0 } : Room).slots) s₁ (entryFrame m #[(.ref a1), (.int (1 : Int32))] 2)
  refine own_pre (own_get16_1_ef m a1 a2 kc1 ea0 ea1 ea2 ea3 ea4 ea5 ea6 ea7 ea8 ea9 ea10 ea11 ea12 ea13 ea14 ea15) ?_
  show own_E p e below _ s₁ (mkF m 0 #[rv a1, iv 1] [])
  refine own_st (fun t k => XS.aloadN X0.here hx rfl (hb hby own_d_prog_14_method_5_0) rfl rfl k) ?_
  show own_E p e below _ s₁ (mkF m 1 #[rv a1, iv 1] [.ref a1])
  obtain ⟨T1, X1, e1, st1⟩ := getF X0 hx hZ hown (host := "") (Or.inl (own_w hw 11 rfl)) Via.refl e0 F_values_a1 (g := (mkF m 1 #[rv a1, iv 1] [.ref a1])) rfl rfl (hb hby own_d_prog_14_method_5_1)
  refine own_st st1 ?_
  show own_E p e below _ T1 (mkF m 4 #[rv a1, iv 1] [.ref a2])
  refine own_st (fun t k => XS.iloadN X1.here hx rfl (hb hby own_d_prog_14_method_5_4) rfl k) ?_
  show own_E p e below _ T1 (mkF m 5 #[rv a1, iv 1] [.int 1, .ref a2])
  refine own_st (own_ald X1 hx hZ e1 V_a2 (j := (1 : Int32)) ⟨by decide, by decide⟩ (v := (.int ea1)) rfl (g := (mkF m 5 #[rv a1, iv 1] [.int 1, .ref a2])) rfl rfl (hb hby own_d_prog_14_method_5_5)) ?_
  show own_E p e below _ T1 (mkF m 6 #[rv a1, iv 1] [.int ea1])
  refine own_retI X1 hx Bd.notSynchronized Bd.returns (hb hby own_d_prog_14_method_5_6) (by decide) (by decide) ?_
  exact ⟨rfl, e1, rfl⟩
def own_get16_2_Q (a1 : Addr) (a2 : Addr) (kc1 : ClassId) (ea0 : Int32) (ea1 : Int32) (ea2 : Int32) (ea3 : Int32) (ea4 : Int32) (ea5 : Int32) (ea6 : Int32) (ea7 : Int32) (ea8 : Int32) (ea9 : Int32) (ea10 : Int32) (ea11 : Int32) (ea12 : Int32) (ea13 : Int32) (ea14 : Int32) (ea15 : Int32) (h0 : Heap) (v : Option Value) (h : Heap) (L : List Loc) : Prop := ((v = some (.int ea2))) ∧ h = h0 ∧ L = []
theorem own_get16_2_ef (m : MethodId) (a1 : Addr) (a2 : Addr) (kc1 : ClassId) (ea0 : Int32) (ea1 : Int32) (ea2 : Int32) (ea3 : Int32) (ea4 : Int32) (ea5 : Int32) (ea6 : Int32) (ea7 : Int32) (ea8 : Int32) (ea9 : Int32) (ea10 : Int32) (ea11 : Int32) (ea12 : Int32) (ea13 : Int32) (ea14 : Int32) (ea15 : Int32) : entryFrame m #[(.ref a1), (.int (2 : Int32))] 2 = mkF m 0 #[.val (.ref a1), .val (.int (2 : Int32))] [] := by first | (simp [entryFrame, mkF, argsToLocals, Value.category]; done) | rfl
set_option maxRecDepth 65536 in
set_option maxHeartbeats 40000000 in
theorem own_get16_2 (l : Launch) (Z : State) (a0 : Array Value) (hw : ∀ d ∈ tables_1, d.before a0 Z = true) (ws : List Jvm.Cond) (a1 : Addr) (a2 : Addr) (kc1 : ClassId) (ea0 : Int32) (ea1 : Int32) (ea2 : Int32) (ea3 : Int32) (ea4 : Int32) (ea5 : Int32) (ea6 : Int32) (ea7 : Int32) (ea8 : Int32) (ea9 : Int32) (ea10 : Int32) (ea11 : Int32) (ea12 : Int32) (ea13 : Int32) (ea14 : Int32) (ea15 : Int32) (h0 : Heap) (n0 : Nat) (Z0 : n0 ≤ h0.size) (F_values_a1 : Fld Z h0 a1 "com/example/kalchas/kalchas/IntList" "values" "[I" (.ref a2)) (V_a2 : Arv Z h0 a2 kc1 .int (16 : Int32) [(.int ea0), (.int ea1), (.int ea2), (.int ea3), (.int ea4), (.int ea5), (.int ea6), (.int ea7), (.int ea8), (.int ea9), (.int ea10), (.int ea11), (.int ea12), (.int ea13), (.int ea14), (.int ea15)] (.int (0 : Int32))) :
    MetFree l own_y6 (head1 (Jvm.Cond.code own_y6 prog_14_method_5_code 2 (some .int) :: ws) ({ frames := 0, cells := 0, slots := 0, locals := 0 } : Room)) (fun a U => a = #[(.ref a1), (.int (2 : Int32))] ∧ Z.Warmed39 U.vm ∧ U.heap = h0) (fun _ _ _ _ _ => True) (fun _ U o U' => ∃ v L, o = .returned v ∧ own_get16_2_Q a1 a2 kc1 ea0 ea1 ea2 ea3 ea4 ea5 ea6 ea7 ea8 ea9 ea10 ea11 ea12 ea13 ea14 ea15 h0 v U'.heap L ∧ FrameEnd U o U' L ({ frames := 0, cells := 0, slots := 0, locals := 0 } : Room).cells ({ frames := 0, cells := 0, slots := 0, locals := 0 } : Room).slots) := by
  refine MetFree.of_bodySF (plainFor_of_name own_pn_IntList) hisR ?_
  intro p e s m args below meth c s₁ Bd hml0 hP hK
  obtain ⟨rfl, hZ, hh⟩ := hP
  have hx := Bd.exec
  have hby := Bd.bytes
  have hml : c.maxLocals = 2 := hml0
  have hown : s.vm.findClass "com/example/kalchas/kalchas/IntList" = some m.cls := findClass_of_methodNamed Bd.named
  have hnm := (name_of_methodNamed Bd.named Bd.method).1
  have X0 : Stand p l e ({ frames := 0, cells := 0, slots := 0, locals := 0 } : Room) s m #[(.ref a1), (.int (2 : Int32))] below meth c s₁ [] 0 0 := Stand.of_body Bd
  have e0 : s₁.heap = h0 := by rw [← hh, Bd.state]; rfl
  show own_E p e below (own_K (own_get16_2_Q a1 a2 kc1 ea0 ea1 ea2 ea3 ea4 ea5 ea6 ea7 ea8 ea9 ea10 ea11 ea12 ea13 ea14 ea15 h0) s ({ frames := 0, cells := 0, slots := 0, locals := 0 } : Room).cells ({ frames := 0, cells := 0, slots := 0, locals := 0 } : Room).slots) s₁ (entryFrame m #[(.ref a1), (.int (2 : Int32))] 2)
  refine own_pre (own_get16_2_ef m a1 a2 kc1 ea0 ea1 ea2 ea3 ea4 ea5 ea6 ea7 ea8 ea9 ea10 ea11 ea12 ea13 ea14 ea15) ?_
  show own_E p e below _ s₁ (mkF m 0 #[rv a1, iv 2] [])
  refine own_st (fun t k => XS.aloadN X0.here hx rfl (hb hby own_d_prog_14_method_5_0) rfl rfl k) ?_
  show own_E p e below _ s₁ (mkF m 1 #[rv a1, iv 2] [.ref a1])
  obtain ⟨T1, X1, e1, st1⟩ := getF X0 hx hZ hown (host := "") (Or.inl (own_w hw 11 rfl)) Via.refl e0 F_values_a1 (g := (mkF m 1 #[rv a1, iv 2] [.ref a1])) rfl rfl (hb hby own_d_prog_14_method_5_1)
  refine own_st st1 ?_
  show own_E p e below _ T1 (mkF m 4 #[rv a1, iv 2] [.ref a2])
  refine own_st (fun t k => XS.iloadN X1.here hx rfl (hb hby own_d_prog_14_method_5_4) rfl k) ?_
  show own_E p e below _ T1 (mkF m 5 #[rv a1, iv 2] [.int 2, .ref a2])
  refine own_st (own_ald X1 hx hZ e1 V_a2 (j := (2 : Int32)) ⟨by decide, by decide⟩ (v := (.int ea2)) rfl (g := (mkF m 5 #[rv a1, iv 2] [.int 2, .ref a2])) rfl rfl (hb hby own_d_prog_14_method_5_5)) ?_
  show own_E p e below _ T1 (mkF m 6 #[rv a1, iv 2] [.int ea2])
  refine own_retI X1 hx Bd.notSynchronized Bd.returns (hb hby own_d_prog_14_method_5_6) (by decide) (by decide) ?_
  exact ⟨rfl, e1, rfl⟩
def own_get16_3_Q (a1 : Addr) (a2 : Addr) (kc1 : ClassId) (ea0 : Int32) (ea1 : Int32) (ea2 : Int32) (ea3 : Int32) (ea4 : Int32) (ea5 : Int32) (ea6 : Int32) (ea7 : Int32) (ea8 : Int32) (ea9 : Int32) (ea10 : Int32) (ea11 : Int32) (ea12 : Int32) (ea13 : Int32) (ea14 : Int32) (ea15 : Int32) (h0 : Heap) (v : Option Value) (h : Heap) (L : List Loc) : Prop := ((v = some (.int ea3))) ∧ h = h0 ∧ L = []
theorem own_get16_3_ef (m : MethodId) (a1 : Addr) (a2 : Addr) (kc1 : ClassId) (ea0 : Int32) (ea1 : Int32) (ea2 : Int32) (ea3 : Int32) (ea4 : Int32) (ea5 : Int32) (ea6 : Int32) (ea7 : Int32) (ea8 : Int32) (ea9 : Int32) (ea10 : Int32) (ea11 : Int32) (ea12 : Int32) (ea13 : Int32) (ea14 : Int32) (ea15 : Int32) : entryFrame m #[(.ref a1), (.int (3 : Int32))] 2 = mkF m 0 #[.val (.ref a1), .val (.int (3 : Int32))] [] := by first | (simp [entryFrame, mkF, argsToLocals, Value.category]; done) | rfl
set_option maxRecDepth 65536 in
set_option maxHeartbeats 40000000 in
theorem own_get16_3 (l : Launch) (Z : State) (a0 : Array Value) (hw : ∀ d ∈ tables_1, d.before a0 Z = true) (ws : List Jvm.Cond) (a1 : Addr) (a2 : Addr) (kc1 : ClassId) (ea0 : Int32) (ea1 : Int32) (ea2 : Int32) (ea3 : Int32) (ea4 : Int32) (ea5 : Int32) (ea6 : Int32) (ea7 : Int32) (ea8 : Int32) (ea9 : Int32) (ea10 : Int32) (ea11 : Int32) (ea12 : Int32) (ea13 : Int32) (ea14 : Int32) (ea15 : Int32) (h0 : Heap) (n0 : Nat) (Z0 : n0 ≤ h0.size) (F_values_a1 : Fld Z h0 a1 "com/example/kalchas/kalchas/IntList" "values" "[I" (.ref a2)) (V_a2 : Arv Z h0 a2 kc1 .int (16 : Int32) [(.int ea0), (.int ea1), (.int ea2), (.int ea3), (.int ea4), (.int ea5), (.int ea6), (.int ea7), (.int ea8), (.int ea9), (.int ea10), (.int ea11), (.int ea12), (.int ea13), (.int ea14), (.int ea15)] (.int (0 : Int32))) :
    MetFree l own_y6 (head1 (Jvm.Cond.code own_y6 prog_14_method_5_code 2 (some .int) :: ws) ({ frames := 0, cells := 0, slots := 0, locals := 0 } : Room)) (fun a U => a = #[(.ref a1), (.int (3 : Int32))] ∧ Z.Warmed39 U.vm ∧ U.heap = h0) (fun _ _ _ _ _ => True) (fun _ U o U' => ∃ v L, o = .returned v ∧ own_get16_3_Q a1 a2 kc1 ea0 ea1 ea2 ea3 ea4 ea5 ea6 ea7 ea8 ea9 ea10 ea11 ea12 ea13 ea14 ea15 h0 v U'.heap L ∧ FrameEnd U o U' L ({ frames := 0, cells := 0, slots := 0, locals := 0 } : Room).cells ({ frames := 0, cells := 0, slots := 0, locals := 0 } : Room).slots) := by
  refine MetFree.of_bodySF (plainFor_of_name own_pn_IntList) hisR ?_
  intro p e s m args below meth c s₁ Bd hml0 hP hK
  obtain ⟨rfl, hZ, hh⟩ := hP
  have hx := Bd.exec
  have hby := Bd.bytes
  have hml : c.maxLocals = 2 := hml0
  have hown : s.vm.findClass "com/example/kalchas/kalchas/IntList" = some m.cls := findClass_of_methodNamed Bd.named
  have hnm := (name_of_methodNamed Bd.named Bd.method).1
  have X0 : Stand p l e ({ frames := 0, cells := 0, slots := 0, locals := 0 } : Room) s m #[(.ref a1), (.int (3 : Int32))] below meth c s₁ [] 0 0 := Stand.of_body Bd
  have e0 : s₁.heap = h0 := by rw [← hh, Bd.state]; rfl
  show own_E p e below (own_K (own_get16_3_Q a1 a2 kc1 ea0 ea1 ea2 ea3 ea4 ea5 ea6 ea7 ea8 ea9 ea10 ea11 ea12 ea13 ea14 ea15 h0) s ({ frames := 0, cells := 0, slots := 0, locals := 0 } : Room).cells ({ frames := 0, cells := 0, slots := 0, locals := 0 } : Room).slots) s₁ (entryFrame m #[(.ref a1), (.int (3 : Int32))] 2)
  refine own_pre (own_get16_3_ef m a1 a2 kc1 ea0 ea1 ea2 ea3 ea4 ea5 ea6 ea7 ea8 ea9 ea10 ea11 ea12 ea13 ea14 ea15) ?_
  show own_E p e below _ s₁ (mkF m 0 #[rv a1, iv 3] [])
  refine own_st (fun t k => XS.aloadN X0.here hx rfl (hb hby own_d_prog_14_method_5_0) rfl rfl k) ?_
  show own_E p e below _ s₁ (mkF m 1 #[rv a1, iv 3] [.ref a1])
  obtain ⟨T1, X1, e1, st1⟩ := getF X0 hx hZ hown (host := "") (Or.inl (own_w hw 11 rfl)) Via.refl e0 F_values_a1 (g := (mkF m 1 #[rv a1, iv 3] [.ref a1])) rfl rfl (hb hby own_d_prog_14_method_5_1)
  refine own_st st1 ?_
  show own_E p e below _ T1 (mkF m 4 #[rv a1, iv 3] [.ref a2])
  refine own_st (fun t k => XS.iloadN X1.here hx rfl (hb hby own_d_prog_14_method_5_4) rfl k) ?_
  show own_E p e below _ T1 (mkF m 5 #[rv a1, iv 3] [.int 3, .ref a2])
  refine own_st (own_ald X1 hx hZ e1 V_a2 (j := (3 : Int32)) ⟨by decide, by decide⟩ (v := (.int ea3)) rfl (g := (mkF m 5 #[rv a1, iv 3] [.int 3, .ref a2])) rfl rfl (hb hby own_d_prog_14_method_5_5)) ?_
  show own_E p e below _ T1 (mkF m 6 #[rv a1, iv 3] [.int ea3])
  refine own_retI X1 hx Bd.notSynchronized Bd.returns (hb hby own_d_prog_14_method_5_6) (by decide) (by decide) ?_
  exact ⟨rfl, e1, rfl⟩
def own_get16_4_Q (a1 : Addr) (a2 : Addr) (kc1 : ClassId) (ea0 : Int32) (ea1 : Int32) (ea2 : Int32) (ea3 : Int32) (ea4 : Int32) (ea5 : Int32) (ea6 : Int32) (ea7 : Int32) (ea8 : Int32) (ea9 : Int32) (ea10 : Int32) (ea11 : Int32) (ea12 : Int32) (ea13 : Int32) (ea14 : Int32) (ea15 : Int32) (h0 : Heap) (v : Option Value) (h : Heap) (L : List Loc) : Prop := ((v = some (.int ea4))) ∧ h = h0 ∧ L = []
theorem own_get16_4_ef (m : MethodId) (a1 : Addr) (a2 : Addr) (kc1 : ClassId) (ea0 : Int32) (ea1 : Int32) (ea2 : Int32) (ea3 : Int32) (ea4 : Int32) (ea5 : Int32) (ea6 : Int32) (ea7 : Int32) (ea8 : Int32) (ea9 : Int32) (ea10 : Int32) (ea11 : Int32) (ea12 : Int32) (ea13 : Int32) (ea14 : Int32) (ea15 : Int32) : entryFrame m #[(.ref a1), (.int (4 : Int32))] 2 = mkF m 0 #[.val (.ref a1), .val (.int (4 : Int32))] [] := by first | (simp [entryFrame, mkF, argsToLocals, Value.category]; done) | rfl
set_option maxRecDepth 65536 in
set_option maxHeartbeats 40000000 in
theorem own_get16_4 (l : Launch) (Z : State) (a0 : Array Value) (hw : ∀ d ∈ tables_1, d.before a0 Z = true) (ws : List Jvm.Cond) (a1 : Addr) (a2 : Addr) (kc1 : ClassId) (ea0 : Int32) (ea1 : Int32) (ea2 : Int32) (ea3 : Int32) (ea4 : Int32) (ea5 : Int32) (ea6 : Int32) (ea7 : Int32) (ea8 : Int32) (ea9 : Int32) (ea10 : Int32) (ea11 : Int32) (ea12 : Int32) (ea13 : Int32) (ea14 : Int32) (ea15 : Int32) (h0 : Heap) (n0 : Nat) (Z0 : n0 ≤ h0.size) (F_values_a1 : Fld Z h0 a1 "com/example/kalchas/kalchas/IntList" "values" "[I" (.ref a2)) (V_a2 : Arv Z h0 a2 kc1 .int (16 : Int32) [(.int ea0), (.int ea1), (.int ea2), (.int ea3), (.int ea4), (.int ea5), (.int ea6), (.int ea7), (.int ea8), (.int ea9), (.int ea10), (.int ea11), (.int ea12), (.int ea13), (.int ea14), (.int ea15)] (.int (0 : Int32))) :
    MetFree l own_y6 (head1 (Jvm.Cond.code own_y6 prog_14_method_5_code 2 (some .int) :: ws) ({ frames := 0, cells := 0, slots := 0, locals := 0 } : Room)) (fun a U => a = #[(.ref a1), (.int (4 : Int32))] ∧ Z.Warmed39 U.vm ∧ U.heap = h0) (fun _ _ _ _ _ => True) (fun _ U o U' => ∃ v L, o = .returned v ∧ own_get16_4_Q a1 a2 kc1 ea0 ea1 ea2 ea3 ea4 ea5 ea6 ea7 ea8 ea9 ea10 ea11 ea12 ea13 ea14 ea15 h0 v U'.heap L ∧ FrameEnd U o U' L ({ frames := 0, cells := 0, slots := 0, locals := 0 } : Room).cells ({ frames := 0, cells := 0, slots := 0, locals := 0 } : Room).slots) := by
  refine MetFree.of_bodySF (plainFor_of_name own_pn_IntList) hisR ?_
  intro p e s m args below meth c s₁ Bd hml0 hP hK
  obtain ⟨rfl, hZ, hh⟩ := hP
  have hx := Bd.exec
  have hby := Bd.bytes
  have hml : c.maxLocals = 2 := hml0
  have hown : s.vm.findClass "com/example/kalchas/kalchas/IntList" = some m.cls := findClass_of_methodNamed Bd.named
  have hnm := (name_of_methodNamed Bd.named Bd.method).1
  have X0 : Stand p l e ({ frames := 0, cells := 0, slots := 0, locals := 0 } : Room) s m #[(.ref a1), (.int (4 : Int32))] below meth c s₁ [] 0 0 := Stand.of_body Bd
  have e0 : s₁.heap = h0 := by rw [← hh, Bd.state]; rfl
  show own_E p e below (own_K (own_get16_4_Q a1 a2 kc1 ea0 ea1 ea2 ea3 ea4 ea5 ea6 ea7 ea8 ea9 ea10 ea11 ea12 ea13 ea14 ea15 h0) s ({ frames := 0, cells := 0, slots := 0, locals := 0 } : Room).cells ({ frames := 0, cells := 0, slots := 0, locals := 0 } : Room).slots) s₁ (entryFrame m #[(.ref a1), (.int (4 : Int32))] 2)
  refine own_pre (own_get16_4_ef m a1 a2 kc1 ea0 ea1 ea2 ea3 ea4 ea5 ea6 ea7 ea8 ea9 ea10 ea11 ea12 ea13 ea14 ea15) ?_
  show own_E p e below _ s₁ (mkF m 0 #[rv a1, iv 4] [])
  refine own_st (fun t k => XS.aloadN X0.here hx rfl (hb hby own_d_prog_14_method_5_0) rfl rfl k) ?_
  show own_E p e below _ s₁ (mkF m 1 #[rv a1, iv 4] [.ref a1])
  obtain ⟨T1, X1, e1, st1⟩ := getF X0 hx hZ hown (host := "") (Or.inl (own_w hw 11 rfl)) Via.refl e0 F_values_a1 (g := (mkF m 1 #[rv a1, iv 4] [.ref a1])) rfl rfl (hb hby own_d_prog_14_method_5_1)
  refine own_st st1 ?_
  show own_E p e below _ T1 (mkF m 4 #[rv a1, iv 4] [.ref a2])
  refine own_st (fun t k => XS.iloadN X1.here hx rfl (hb hby own_d_prog_14_method_5_4) rfl k) ?_
  show own_E p e below _ T1 (mkF m 5 #[rv a1, iv 4] [.int 4, .ref a2])
  refine own_st (own_ald X1 hx hZ e1 V_a2 (j := (4 : Int32)) ⟨by decide, by decide⟩ (v := (.int ea4)) rfl (g := (mkF m 5 #[rv a1, iv 4] [.int 4, .ref a2])) rfl rfl (hb hby own_d_prog_14_method_5_5)) ?_
  show own_E p e below _ T1 (mkF m 6 #[rv a1, iv 4] [.int ea4])
  refine own_retI X1 hx Bd.notSynchronized Bd.returns (hb hby own_d_prog_14_method_5_6) (by decide) (by decide) ?_
  exact ⟨rfl, e1, rfl⟩
def own_get16_5_Q (a1 : Addr) (a2 : Addr) (kc1 : ClassId) (ea0 : Int32) (ea1 : Int32) (ea2 : Int32) (ea3 : Int32) (ea4 : Int32) (ea5 : Int32) (ea6 : Int32) (ea7 : Int32) (ea8 : Int32) (ea9 : Int32) (ea10 : Int32) (ea11 : Int32) (ea12 : Int32) (ea13 : Int32) (ea14 : Int32) (ea15 : Int32) (h0 : Heap) (v : Option Value) (h : Heap) (L : List Loc) : Prop := ((v = some (.int ea5))) ∧ h = h0 ∧ L = []
theorem own_get16_5_ef (m : MethodId) (a1 : Addr) (a2 : Addr) (kc1 : ClassId) (ea0 : Int32) (ea1 : Int32) (ea2 : Int32) (ea3 : Int32) (ea4 : Int32) (ea5 : Int32) (ea6 : Int32) (ea7 : Int32) (ea8 : Int32) (ea9 : Int32) (ea10 : Int32) (ea11 : Int32) (ea12 : Int32) (ea13 : Int32) (ea14 : Int32) (ea15 : Int32) : entryFrame m #[(.ref a1), (.int (5 : Int32))] 2 = mkF m 0 #[.val (.ref a1), .val (.int (5 : Int32))] [] := by first | (simp [entryFrame, mkF, argsToLocals, Value.category]; done) | rfl
set_option maxRecDepth 65536 in
set_option maxHeartbeats 40000000 in
theorem own_get16_5 (l : Launch) (Z : State) (a0 : Array Value) (hw : ∀ d ∈ tables_1, d.before a0 Z = true) (ws : List Jvm.Cond) (a1 : Addr) (a2 : Addr) (kc1 : ClassId) (ea0 : Int32) (ea1 : Int32) (ea2 : Int32) (ea3 : Int32) (ea4 : Int32) (ea5 : Int32) (ea6 : Int32) (ea7 : Int32) (ea8 : Int32) (ea9 : Int32) (ea10 : Int32) (ea11 : Int32) (ea12 : Int32) (ea13 : Int32) (ea14 : Int32) (ea15 : Int32) (h0 : Heap) (n0 : Nat) (Z0 : n0 ≤ h0.size) (F_values_a1 : Fld Z h0 a1 "com/example/kalchas/kalchas/IntList" "values" "[I" (.ref a2)) (V_a2 : Arv Z h0 a2 kc1 .int (16 : Int32) [(.int ea0), (.int ea1), (.int ea2), (.int ea3), (.int ea4), (.int ea5), (.int ea6), (.int ea7), (.int ea8), (.int ea9), (.int ea10), (.int ea11), (.int ea12), (.int ea13), (.int ea14), (.int ea15)] (.int (0 : Int32))) :
    MetFree l own_y6 (head1 (Jvm.Cond.code own_y6 prog_14_method_5_code 2 (some .int) :: ws) ({ frames := 0, cells := 0, slots := 0, locals := 0 } : Room)) (fun a U => a = #[(.ref a1), (.int (5 : Int32))] ∧ Z.Warmed39 U.vm ∧ U.heap = h0) (fun _ _ _ _ _ => True) (fun _ U o U' => ∃ v L, o = .returned v ∧ own_get16_5_Q a1 a2 kc1 ea0 ea1 ea2 ea3 ea4 ea5 ea6 ea7 ea8 ea9 ea10 ea11 ea12 ea13 ea14 ea15 h0 v U'.heap L ∧ FrameEnd U o U' L ({ frames := 0, cells := 0, slots := 0, locals := 0 } : Room).cells ({ frames := 0, cells := 0, slots := 0, locals := 0 } : Room).slots) := by
  refine MetFree.of_bodySF (plainFor_of_name own_pn_IntList) hisR ?_
  intro p e s m args below meth c s₁ Bd hml0 hP hK
  obtain ⟨rfl, hZ, hh⟩ := hP
  have hx := Bd.exec
  have hby := Bd.bytes
  have hml : c.maxLocals = 2 := hml0
  have hown : s.vm.findClass "com/example/kalchas/kalchas/IntList" = some m.cls := findClass_of_methodNamed Bd.named
  have hnm := (name_of_methodNamed Bd.named Bd.method).1
  have X0 : Stand p l e ({ frames := 0, cells := 0, slots := 0, locals := 0 } : Room) s m #[(.ref a1), (.int (5 : Int32))] below meth c s₁ [] 0 0 := Stand.of_body Bd
  have e0 : s₁.heap = h0 := by rw [← hh, Bd.state]; rfl
  show own_E p e below (own_K (own_get16_5_Q a1 a2 kc1 ea0 ea1 ea2 ea3 ea4 ea5 ea6 ea7 ea8 ea9 ea10 ea11 ea12 ea13 ea14 ea15 h0) s ({ frames := 0, cells := 0, slots := 0, locals := 0 } : Room).cells ({ frames := 0, cells := 0, slots := 0, locals := 0 } : Room).slots) s₁ (entryFrame m #[(.ref a1), (.int (5 : Int32))] 2)
  refine own_pre (own_get16_5_ef m a1 a2 kc1 ea0 ea1 ea2 ea3 ea4 ea5 ea6 ea7 ea8 ea9 ea10 ea11 ea12 ea13 ea14 ea15) ?_
  show own_E p e below _ s₁ (mkF m 0 #[rv a1, iv 5] [])
  refine own_st (fun t k => XS.aloadN X0.here hx rfl (hb hby own_d_prog_14_method_5_0) rfl rfl k) ?_
  show own_E p e below _ s₁ (mkF m 1 #[rv a1, iv 5] [.ref a1])
  obtain ⟨T1, X1, e1, st1⟩ := getF X0 hx hZ hown (host := "") (Or.inl (own_w hw 11 rfl)) Via.refl e0 F_values_a1 (g := (mkF m 1 #[rv a1, iv 5] [.ref a1])) rfl rfl (hb hby own_d_prog_14_method_5_1)
  refine own_st st1 ?_
  show own_E p e below _ T1 (mkF m 4 #[rv a1, iv 5] [.ref a2])
  refine own_st (fun t k => XS.iloadN X1.here hx rfl (hb hby own_d_prog_14_method_5_4) rfl k) ?_
  show own_E p e below _ T1 (mkF m 5 #[rv a1, iv 5] [.int 5, .ref a2])
  refine own_st (own_ald X1 hx hZ e1 V_a2 (j := (5 : Int32)) ⟨by decide, by decide⟩ (v := (.int ea5)) rfl (g := (mkF m 5 #[rv a1, iv 5] [.int 5, .ref a2])) rfl rfl (hb hby own_d_prog_14_method_5_5)) ?_
  show own_E p e below _ T1 (mkF m 6 #[rv a1, iv 5] [.int ea5])
  refine own_retI X1 hx Bd.notSynchronized Bd.returns (hb hby own_d_prog_14_method_5_6) (by decide) (by decide) ?_
  exact ⟨rfl, e1, rfl⟩
def own_get16_6_Q (a1 : Addr) (a2 : Addr) (kc1 : ClassId) (ea0 : Int32) (ea1 : Int32) (ea2 : Int32) (ea3 : Int32) (ea4 : Int32) (ea5 : Int32) (ea6 : Int32) (ea7 : Int32) (ea8 : Int32) (ea9 : Int32) (ea10 : Int32) (ea11 : Int32) (ea12 : Int32) (ea13 : Int32) (ea14 : Int32) (ea15 : Int32) (h0 : Heap) (v : Option Value) (h : Heap) (L : List Loc) : Prop := ((v = some (.int ea6))) ∧ h = h0 ∧ L = []
theorem own_get16_6_ef (m : MethodId) (a1 : Addr) (a2 : Addr) (kc1 : ClassId) (ea0 : Int32) (ea1 : Int32) (ea2 : Int32) (ea3 : Int32) (ea4 : Int32) (ea5 : Int32) (ea6 : Int32) (ea7 : Int32) (ea8 : Int32) (ea9 : Int32) (ea10 : Int32) (ea11 : Int32) (ea12 : Int32) (ea13 : Int32) (ea14 : Int32) (ea15 : Int32) : entryFrame m #[(.ref a1), (.int (6 : Int32))] 2 = mkF m 0 #[.val (.ref a1), .val (.int (6 : Int32))] [] := by first | (simp [entryFrame, mkF, argsToLocals, Value.category]; done) | rfl
set_option maxRecDepth 65536 in
set_option maxHeartbeats 40000000 in
theorem own_get16_6 (l : Launch) (Z : State) (a0 : Array Value) (hw : ∀ d ∈ tables_1, d.before a0 Z = true) (ws : List Jvm.Cond) (a1 : Addr) (a2 : Addr) (kc1 : ClassId) (ea0 : Int32) (ea1 : Int32) (ea2 : Int32) (ea3 : Int32) (ea4 : Int32) (ea5 : Int32) (ea6 : Int32) (ea7 : Int32) (ea8 : Int32) (ea9 : Int32) (ea10 : Int32) (ea11 : Int32) (ea12 : Int32) (ea13 : Int32) (ea14 : Int32) (ea15 : Int32) (h0 : Heap) (n0 : Nat) (Z0 : n0 ≤ h0.size) (F_values_a1 : Fld Z h0 a1 "com/example/kalchas/kalchas/IntList" "values" "[I" (.ref a2)) (V_a2 : Arv Z h0 a2 kc1 .int (16 : Int32) [(.int ea0), (.int ea1), (.int ea2), (.int ea3), (.int ea4), (.int ea5), (.int ea6), (.int ea7), (.int ea8), (.int ea9), (.int ea10), (.int ea11), (.int ea12), (.int ea13), (.int ea14), (.int ea15)] (.int (0 : Int32))) :
    MetFree l own_y6 (head1 (Jvm.Cond.code own_y6 prog_14_method_5_code 2 (some .int) :: ws) ({ frames := 0, cells := 0, slots := 0, locals := 0 } : Room)) (fun a U => a = #[(.ref a1), (.int (6 : Int32))] ∧ Z.Warmed39 U.vm ∧ U.heap = h0) (fun _ _ _ _ _ => True) (fun _ U o U' => ∃ v L, o = .returned v ∧ own_get16_6_Q a1 a2 kc1 ea0 ea1 ea2 ea3 ea4 ea5 ea6 ea7 ea8 ea9 ea10 ea11 ea12 ea13 ea14 ea15 h0 v U'.heap L ∧ FrameEnd U o U' L ({ frames := 0, cells := 0, slots := 0, locals := 0 } : Room).cells ({ frames := 0, cells := 0, slots := 0, locals := 0 } : Room).slots) := by
  refine MetFree.of_bodySF (plainFor_of_name own_pn_IntList) hisR ?_
  intro p e s m args below meth c s₁ Bd hml0 hP hK
  obtain ⟨rfl, hZ, hh⟩ := hP
  have hx := Bd.exec
  have hby := Bd.bytes
  have hml : c.maxLocals = 2 := hml0
  have hown : s.vm.findClass "com/example/kalchas/kalchas/IntList" = some m.cls := findClass_of_methodNamed Bd.named
  have hnm := (name_of_methodNamed Bd.named Bd.method).1
  have X0 : Stand p l e ({ frames := 0, cells := 0, slots := 0, locals := 0 } : Room) s m #[(.ref a1), (.int (6 : Int32))] below meth c s₁ [] 0 0 := Stand.of_body Bd
  have e0 : s₁.heap = h0 := by rw [← hh, Bd.state]; rfl
  show own_E p e below (own_K (own_get16_6_Q a1 a2 kc1 ea0 ea1 ea2 ea3 ea4 ea5 ea6 ea7 ea8 ea9 ea10 ea11 ea12 ea13 ea14 ea15 h0) s ({ frames := 0, cells := 0, slots := 0, locals := 0 } : Room).cells ({ frames := 0, cells := 0, slots := 0, locals := 0 } : Room).slots) s₁ (entryFrame m #[(.ref a1), (.int (6 : Int32))] 2)
  refine own_pre (own_get16_6_ef m a1 a2 kc1 ea0 ea1 ea2 ea3 ea4 ea5 ea6 ea7 ea8 ea9 ea10 ea11 ea12 ea13 ea14 ea15) ?_
  show own_E p e below _ s₁ (mkF m 0 #[rv a1, iv 6] [])
  refine own_st (fun t k => XS.aloadN X0.here hx rfl (hb hby own_d_prog_14_method_5_0) rfl rfl k) ?_
  show own_E p e below _ s₁ (mkF m 1 #[rv a1, iv 6] [.ref a1])
  obtain ⟨T1, X1, e1, st1⟩ := getF X0 hx hZ hown (host := "") (Or.inl (own_w hw 11 rfl)) Via.refl e0 F_values_a1 (g := (mkF m 1 #[rv a1, iv 6] [.ref a1])) rfl rfl (hb hby own_d_prog_14_method_5_1)
  refine own_st st1 ?_
  show own_E p e below _ T1 (mkF m 4 #[rv a1, iv 6] [.ref a2])
  refine own_st (fun t k => XS.iloadN X1.here hx rfl (hb hby own_d_prog_14_method_5_4) rfl k) ?_
  show own_E p e below _ T1 (mkF m 5 #[rv a1, iv 6] [.int 6, .ref a2])
  refine own_st (own_ald X1 hx hZ e1 V_a2 (j := (6 : Int32)) ⟨by decide, by decide⟩ (v := (.int ea6)) rfl (g := (mkF m 5 #[rv a1, iv 6] [.int 6, .ref a2])) rfl rfl (hb hby own_d_prog_14_method_5_5)) ?_
  show own_E p e below _ T1 (mkF m 6 #[rv a1, iv 6] [.int ea6])
  refine own_retI X1 hx Bd.notSynchronized Bd.returns (hb hby own_d_prog_14_method_5_6) (by decide) (by decide) ?_
  exact ⟨rfl, e1, rfl⟩
def own_get16_7_Q (a1 : Addr) (a2 : Addr) (kc1 : ClassId) (ea0 : Int32) (ea1 : Int32) (ea2 : Int32) (ea3 : Int32) (ea4 : Int32) (ea5 : Int32) (ea6 : Int32) (ea7 : Int32) (ea8 : Int32) (ea9 : Int32) (ea10 : Int32) (ea11 : Int32) (ea12 : Int32) (ea13 : Int32) (ea14 : Int32) (ea15 : Int32) (h0 : Heap) (v : Option Value) (h : Heap) (L : List Loc) : Prop := ((v = some (.int ea7))) ∧ h = h0 ∧ L = []
theorem own_get16_7_ef (m : MethodId) (a1 : Addr) (a2 : Addr) (kc1 : ClassId) (ea0 : Int32) (ea1 : Int32) (ea2 : Int32) (ea3 : Int32) (ea4 : Int32) (ea5 : Int32) (ea6 : Int32) (ea7 : Int32) (ea8 : Int32) (ea9 : Int32) (ea10 : Int32) (ea11 : Int32) (ea12 : Int32) (ea13 : Int32) (ea14 : Int32) (ea15 : Int32) : entryFrame m #[(.ref a1), (.int (7 : Int32))] 2 = mkF m 0 #[.val (.ref a1), .val (.int (7 : Int32))] [] := by first | (simp [entryFrame, mkF, argsToLocals, Value.category]; done) | rfl
set_option maxRecDepth 65536 in
set_option maxHeartbeats 40000000 in
theorem own_get16_7 (l : Launch) (Z : State) (a0 : Array Value) (hw : ∀ d ∈ tables_1, d.before a0 Z = true) (ws : List Jvm.Cond) (a1 : Addr) (a2 : Addr) (kc1 : ClassId) (ea0 : Int32) (ea1 : Int32) (ea2 : Int32) (ea3 : Int32) (ea4 : Int32) (ea5 : Int32) (ea6 : Int32) (ea7 : Int32) (ea8 : Int32) (ea9 : Int32) (ea10 : Int32) (ea11 : Int32) (ea12 : Int32) (ea13 : Int32) (ea14 : Int32) (ea15 : Int32) (h0 : Heap) (n0 : Nat) (Z0 : n0 ≤ h0.size) (F_values_a1 : Fld Z h0 a1 "com/example/kalchas/kalchas/IntList" "values" "[I" (.ref a2)) (V_a2 : Arv Z h0 a2 kc1 .int (16 : Int32) [(.int ea0), (.int ea1), (.int ea2), (.int ea3), (.int ea4), (.int ea5), (.int ea6), (.int ea7), (.int ea8), (.int ea9), (.int ea10), (.int ea11), (.int ea12), (.int ea13), (.int ea14), (.int ea15)] (.int (0 : Int32))) :
    MetFree l own_y6 (head1 (Jvm.Cond.code own_y6 prog_14_method_5_code 2 (some .int) :: ws) ({ frames := 0, cells := 0, slots := 0, locals := 0 } : Room)) (fun a U => a = #[(.ref a1), (.int (7 : Int32))] ∧ Z.Warmed39 U.vm ∧ U.heap = h0) (fun _ _ _ _ _ => True) (fun _ U o U' => ∃ v L, o = .returned v ∧ own_get16_7_Q a1 a2 kc1 ea0 ea1 ea2 ea3 ea4 ea5 ea6 ea7 ea8 ea9 ea10 ea11 ea12 ea13 ea14 ea15 h0 v U'.heap L ∧ FrameEnd U o U' L ({ frames := 0, cells := 0, slots := 0, locals := 0 } : Room).cells ({ frames := 0, cells := 0, slots := 0, locals := 0 } : Room).slots) := by
  refine MetFree.of_bodySF (plainFor_of_name own_pn_IntList) hisR ?_
  intro p e s m args below meth c s₁ Bd hml0 hP hK
  obtain ⟨rfl, hZ, hh⟩ := hP
  have hx := Bd.exec
  have hby := Bd.bytes
  have hml : c.maxLocals = 2 := hml0
  have hown : s.vm.findClass "com/example/kalchas/kalchas/IntList" = some m.cls := findClass_of_methodNamed Bd.named
  have hnm := (name_of_methodNamed Bd.named Bd.method).1
  have X0 : Stand p l e ({ frames := 0, cells := 0, slots := 0, locals := 0 } : Room) s m #[(.ref a1), (.int (7 : Int32))] below meth c s₁ [] 0 0 := Stand.of_body Bd
  have e0 : s₁.heap = h0 := by rw [← hh, Bd.state]; rfl
  show own_E p e below (own_K (own_get16_7_Q a1 a2 kc1 ea0 ea1 ea2 ea3 ea4 ea5 ea6 ea7 ea8 ea9 ea10 ea11 ea12 ea13 ea14 ea15 h0) s ({ frames := 0, cells := 0, slots := 0, locals := 0 } : Room).cells ({ frames := 0, cells := 0, slots := 0, locals := 0 } : Room).slots) s₁ (entryFrame m #[(.ref a1), (.int (7 : Int32))] 2)
  refine own_pre (own_get16_7_ef m a1 a2 kc1 ea0 ea1 ea2 ea3 ea4 ea5 ea6 ea7 ea8 ea9 ea10 ea11 ea12 ea13 ea14 ea15) ?_
  show own_E p e below _ s₁ (mkF m 0 #[rv a1, iv 7] [])
  refine own_st (fun t k => XS.aloadN X0.here hx rfl (hb hby own_d_prog_14_method_5_0) rfl rfl k) ?_
  show own_E p e below _ s₁ (mkF m 1 #[rv a1, iv 7] [.ref a1])
  obtain ⟨T1, X1, e1, st1⟩ := getF X0 hx hZ hown (host := "") (Or.inl (own_w hw 11 rfl)) Via.refl e0 F_values_a1 (g := (mkF m 1 #[rv a1, iv 7] [.ref a1])) rfl rfl (hb hby own_d_prog_14_method_5_1)
  refine own_st st1 ?_
  show own_E p e below _ T1 (mkF m 4 #[rv a1, iv 7] [.ref a2])
  refine own_st (fun t k => XS.iloadN X1.here hx rfl (hb hby own_d_prog_14_method_5_4) rfl k) ?_
  show own_E p e below _ T1 (mkF m 5 #[rv a1, iv 7] [.int 7, .ref a2])
  refine own_st (own_ald X1 hx hZ e1 V_a2 (j := (7 : Int32)) ⟨by decide, by decide⟩ (v := (.int ea7)) rfl (g := (mkF m 5 #[rv a1, iv 7] [.int 7, .ref a2])) rfl rfl (hb hby own_d_prog_14_method_5_5)) ?_
  show own_E p e below _ T1 (mkF m 6 #[rv a1, iv 7] [.int ea7])
  refine own_retI X1 hx Bd.notSynchronized Bd.returns (hb hby own_d_prog_14_method_5_6) (by decide) (by decide) ?_
  exact ⟨rfl, e1, rfl⟩
def own_get16_8_Q (a1 : Addr) (a2 : Addr) (kc1 : ClassId) (ea0 : Int32) (ea1 : Int32) (ea2 : Int32) (ea3 : Int32) (ea4 : Int32) (ea5 : Int32) (ea6 : Int32) (ea7 : Int32) (ea8 : Int32) (ea9 : Int32) (ea10 : Int32) (ea11 : Int32) (ea12 : Int32) (ea13 : Int32) (ea14 : Int32) (ea15 : Int32) (h0 : Heap) (v : Option Value) (h : Heap) (L : List Loc) : Prop := ((v = some (.int ea8))) ∧ h = h0 ∧ L = []
theorem own_get16_8_ef (m : MethodId) (a1 : Addr) (a2 : Addr) (kc1 : ClassId) (ea0 : Int32) (ea1 : Int32) (ea2 : Int32) (ea3 : Int32) (ea4 : Int32) (ea5 : Int32) (ea6 : Int32) (ea7 : Int32) (ea8 : Int32) (ea9 : Int32) (ea10 : Int32) (ea11 : Int32) (ea12 : Int32) (ea13 : Int32) (ea14 : Int32) (ea15 : Int32) : entryFrame m #[(.ref a1), (.int (8 : Int32))] 2 = mkF m 0 #[.val (.ref a1), .val (.int (8 : Int32))] [] := by first | (simp [entryFrame, mkF, argsToLocals, Value.category]; done) | rfl
set_option maxRecDepth 65536 in
set_option maxHeartbeats 40000000 in
theorem own_get16_8 (l : Launch) (Z : State) (a0 : Array Value) (hw : ∀ d ∈ tables_1, d.before a0 Z = true) (ws : List Jvm.Cond) (a1 : Addr) (a2 : Addr) (kc1 : ClassId) (ea0 : Int32) (ea1 : Int32) (ea2 : Int32) (ea3 : Int32) (ea4 : Int32) (ea5 : Int32) (ea6 : Int32) (ea7 : Int32) (ea8 : Int32) (ea9 : Int32) (ea10 : Int32) (ea11 : Int32) (ea12 : Int32) (ea13 : Int32) (ea14 : Int32) (ea15 : Int32) (h0 : Heap) (n0 : Nat) (Z0 : n0 ≤ h0.size) (F_values_a1 : Fld Z h0 a1 "com/example/kalchas/kalchas/IntList" "values" "[I" (.ref a2)) (V_a2 : Arv Z h0 a2 kc1 .int (16 : Int32) [(.int ea0), (.int ea1), (.int ea2), (.int ea3), (.int ea4), (.int ea5), (.int ea6), (.int ea7), (.int ea8), (.int ea9), (.int ea10), (.int ea11), (.int ea12), (.int ea13), (.int ea14), (.int ea15)] (.int (0 : Int32))) :
    MetFree l own_y6 (head1 (Jvm.Cond.code own_y6 prog_14_method_5_code 2 (some .int) :: ws) ({ frames := 0, cells := 0, slots := 0, locals := 0 } : Room)) (fun a U => a = #[(.ref a1), (.int (8 : Int32))] ∧ Z.Warmed39 U.vm ∧ U.heap = h0) (fun _ _ _ _ _ => True) (fun _ U o U' => ∃ v L, o = .returned v ∧ own_get16_8_Q a1 a2 kc1 ea0 ea1 ea2 ea3 ea4 ea5 ea6 ea7 ea8 ea9 ea10 ea11 ea12 ea13 ea14 ea15 h0 v U'.heap L ∧ FrameEnd U o U' L ({ frames := 0, cells := 0, slots := 0, locals := 0 } : Room).cells ({ frames := 0, cells := 0, slots := 0, locals := 0 } : Room).slots) := by
  refine MetFree.of_bodySF (plainFor_of_name own_pn_IntList) hisR ?_
  intro p e s m args below meth c s₁ Bd hml0 hP hK
  obtain ⟨rfl, hZ, hh⟩ := hP
  have hx := Bd.exec
  have hby := Bd.bytes
  have hml : c.maxLocals = 2 := hml0
  have hown : s.vm.findClass "com/example/kalchas/kalchas/IntList" = some m.cls := findClass_of_methodNamed Bd.named
  have hnm := (name_of_methodNamed Bd.named Bd.method).1
  have X0 : Stand p l e ({ frames := 0, cells := 0, slots := 0, locals := 0 } : Room) s m #[(.ref a1), (.int (8 : Int32))] below meth c s₁ [] 0 0 := Stand.of_body Bd
  have e0 : s₁.heap = h0 := by rw [← hh, Bd.state]; rfl
  show own_E p e below (own_K (own_get16_8_Q a1 a2 kc1 ea0 ea1 ea2 ea3 ea4 ea5 ea6 ea7 ea8 ea9 ea10 ea11 ea12 ea13 ea14 ea15 h0) s ({ frames := 0, cells := 0, slots := 0, locals := 0 } : Room).cells ({ frames := 0, cells := 0, slots := 0, locals := 0 } : Room).slots) s₁ (entryFrame m #[(.ref a1), (.int (8 : Int32))] 2)
  refine own_pre (own_get16_8_ef m a1 a2 kc1 ea0 ea1 ea2 ea3 ea4 ea5 ea6 ea7 ea8 ea9 ea10 ea11 ea12 ea13 ea14 ea15) ?_
  show own_E p e below _ s₁ (mkF m 0 #[rv a1, iv 8] [])
  refine own_st (fun t k => XS.aloadN X0.here hx rfl (hb hby own_d_prog_14_method_5_0) rfl rfl k) ?_
  show own_E p e below _ s₁ (mkF m 1 #[rv a1, iv 8] [.ref a1])
  obtain ⟨T1, X1, e1, st1⟩ := getF X0 hx hZ hown (host := "") (Or.inl (own_w hw 11 rfl)) Via.refl e0 F_values_a1 (g := (mkF m 1 #[rv a1, iv 8] [.ref a1])) rfl rfl (hb hby own_d_prog_14_method_5_1)
  refine own_st st1 ?_
  show own_E p e below _ T1 (mkF m 4 #[rv a1, iv 8] [.ref a2])
  refine own_st (fun t k => XS.iloadN X1.here hx rfl (hb hby own_d_prog_14_method_5_4) rfl k) ?_
  show own_E p e below _ T1 (mkF m 5 #[rv a1, iv 8] [.int 8, .ref a2])
  refine own_st (own_ald X1 hx hZ e1 V_a2 (j := (8 : Int32)) ⟨by decide, by decide⟩ (v := (.int ea8)) rfl (g := (mkF m 5 #[rv a1, iv 8] [.int 8, .ref a2])) rfl rfl (hb hby own_d_prog_14_method_5_5)) ?_
  show own_E p e below _ T1 (mkF m 6 #[rv a1, iv 8] [.int ea8])
  refine own_retI X1 hx Bd.notSynchronized Bd.returns (hb hby own_d_prog_14_method_5_6) (by decide) (by decide) ?_
  exact ⟨rfl, e1, rfl⟩
def own_get16_9_Q (a1 : Addr) (a2 : Addr) (kc1 : ClassId) (ea0 : Int32) (ea1 : Int32) (ea2 : Int32) (ea3 : Int32) (ea4 : Int32) (ea5 : Int32) (ea6 : Int32) (ea7 : Int32) (ea8 : Int32) (ea9 : Int32) (ea10 : Int32) (ea11 : Int32) (ea12 : Int32) (ea13 : Int32) (ea14 : Int32) (ea15 : Int32) (h0 : Heap) (v : Option Value) (h : Heap) (L : List Loc) : Prop := ((v = some (.int ea9))) ∧ h = h0 ∧ L = []
theorem own_get16_9_ef (m : MethodId) (a1 : Addr) (a2 : Addr) (kc1 : ClassId) (ea0 : Int32) (ea1 : Int32) (ea2 : Int32) (ea3 : Int32) (ea4 : Int32) (ea5 : Int32) (ea6 : Int32) (ea7 : Int32) (ea8 : Int32) (ea9 : Int32) (ea10 : Int32) (ea11 : Int32) (ea12 : Int32) (ea13 : Int32) (ea14 : Int32) (ea15 : Int32) : entryFrame m #[(.ref a1), (.int (9 : Int32))] 2 = mkF m 0 #[.val (.ref a1), .val (.int (9 : Int32))] [] := by first | (simp [entryFrame, mkF, argsToLocals, Value.category]; done) | rfl
set_option maxRecDepth 65536 in
set_option maxHeartbeats 40000000 in
theorem own_get16_9 (l : Launch) (Z : State) (a0 : Array Value) (hw : ∀ d ∈ tables_1, d.before a0 Z = true) (ws : List Jvm.Cond) (a1 : Addr) (a2 : Addr) (kc1 : ClassId) (ea0 : Int32) (ea1 : Int32) (ea2 : Int32) (ea3 : Int32) (ea4 : Int32) (ea5 : Int32) (ea6 : Int32) (ea7 : Int32) (ea8 : Int32) (ea9 : Int32) (ea10 : Int32) (ea11 : Int32) (ea12 : Int32) (ea13 : Int32) (ea14 : Int32) (ea15 : Int32) (h0 : Heap) (n0 : Nat) (Z0 : n0 ≤ h0.size) (F_values_a1 : Fld Z h0 a1 "com/example/kalchas/kalchas/IntList" "values" "[I" (.ref a2)) (V_a2 : Arv Z h0 a2 kc1 .int (16 : Int32) [(.int ea0), (.int ea1), (.int ea2), (.int ea3), (.int ea4), (.int ea5), (.int ea6), (.int ea7), (.int ea8), (.int ea9), (.int ea10), (.int ea11), (.int ea12), (.int ea13), (.int ea14), (.int ea15)] (.int (0 : Int32))) :
    MetFree l own_y6 (head1 (Jvm.Cond.code own_y6 prog_14_method_5_code 2 (some .int) :: ws) ({ frames := 0, cells := 0, slots := 0, locals := 0 } : Room)) (fun a U => a = #[(.ref a1), (.int (9 : Int32))] ∧ Z.Warmed39 U.vm ∧ U.heap = h0) (fun _ _ _ _ _ => True) (fun _ U o U' => ∃ v L, o = .returned v ∧ own_get16_9_Q a1 a2 kc1 ea0 ea1 ea2 ea3 ea4 ea5 ea6 ea7 ea8 ea9 ea10 ea11 ea12 ea13 ea14 ea15 h0 v U'.heap L ∧ FrameEnd U o U' L ({ frames := 0, cells := 0, slots := 0, locals := 0 } : Room).cells ({ frames := 0, cells := 0, slots := 0, locals := 0 } : Room).slots) := by
  refine MetFree.of_bodySF (plainFor_of_name own_pn_IntList) hisR ?_
  intro p e s m args below meth c s₁ Bd hml0 hP hK
  obtain ⟨rfl, hZ, hh⟩ := hP
  have hx := Bd.exec
  have hby := Bd.bytes
  have hml : c.maxLocals = 2 := hml0
  have hown : s.vm.findClass "com/example/kalchas/kalchas/IntList" = some m.cls := findClass_of_methodNamed Bd.named
  have hnm := (name_of_methodNamed Bd.named Bd.method).1
  have X0 : Stand p l e ({ frames := 0, cells := 0, slots := 0, locals := 0 } : Room) s m #[(.ref a1), (.int (9 : Int32))] below meth c s₁ [] 0 0 := Stand.of_body Bd
  have e0 : s₁.heap = h0 := by rw [← hh, Bd.state]; rfl
  show own_E p e below (own_K (own_get16_9_Q a1 a2 kc1 ea0 ea1 ea2 ea3 ea4 ea5 ea6 ea7 ea8 ea9 ea10 ea11 ea12 ea13 ea14 ea15 h0) s ({ frames := 0, cells := 0, slots := 0, locals := 0 } : Room).cells ({ frames := 0, cells := 0, slots := 0, locals := 0 } : Room).slots) s₁ (entryFrame m #[(.ref a1), (.int (9 : Int32))] 2)
  refine own_pre (own_get16_9_ef m a1 a2 kc1 ea0 ea1 ea2 ea3 ea4 ea5 ea6 ea7 ea8 ea9 ea10 ea11 ea12 ea13 ea14 ea15) ?_
  show own_E p e below _ s₁ (mkF m 0 #[rv a1, iv 9] [])
  refine own_st (fun t k => XS.aloadN X0.here hx rfl (hb hby own_d_prog_14_method_5_0) rfl rfl k) ?_
  show own_E p e below _ s₁ (mkF m 1 #[rv a1, iv 9] [.ref a1])
  obtain ⟨T1, X1, e1, st1⟩ := getF X0 hx hZ hown (host := "") (Or.inl (own_w hw 11 rfl)) Via.refl e0 F_values_a1 (g := (mkF m 1 #[rv a1, iv 9] [.ref a1])) rfl rfl (hb hby own_d_prog_14_method_5_1)
  refine own_st st1 ?_
  show own_E p e below _ T1 (mkF m 4 #[rv a1, iv 9] [.ref a2])
  refine own_st (fun t k => XS.iloadN X1.here hx rfl (hb hby own_d_prog_14_method_5_4) rfl k) ?_
  show own_E p e below _ T1 (mkF m 5 #[rv a1, iv 9] [.int 9, .ref a2])
  refine own_st (own_ald X1 hx hZ e1 V_a2 (j := (9 : Int32)) ⟨by decide, by decide⟩ (v := (.int ea9)) rfl (g := (mkF m 5 #[rv a1, iv 9] [.int 9, .ref a2])) rfl rfl (hb hby own_d_prog_14_method_5_5)) ?_
  show own_E p e below _ T1 (mkF m 6 #[rv a1, iv 9] [.int ea9])
  refine own_retI X1 hx Bd.notSynchronized Bd.returns (hb hby own_d_prog_14_method_5_6) (by decide) (by decide) ?_
  exact ⟨rfl, e1, rfl⟩
def own_get16_10_Q (a1 : Addr) (a2 : Addr) (kc1 : ClassId) (ea0 : Int32) (ea1 : Int32) (ea2 : Int32) (ea3 : Int32) (ea4 : Int32) (ea5 : Int32) (ea6 : Int32) (ea7 : Int32) (ea8 : Int32) (ea9 : Int32) (ea10 : Int32) (ea11 : Int32) (ea12 : Int32) (ea13 : Int32) (ea14 : Int32) (ea15 : Int32) (h0 : Heap) (v : Option Value) (h : Heap) (L : List Loc) : Prop := ((v = some (.int ea10))) ∧ h = h0 ∧ L = []
theorem own_get16_10_ef (m : MethodId) (a1 : Addr) (a2 : Addr) (kc1 : ClassId) (ea0 : Int32) (ea1 : Int32) (ea2 : Int32) (ea3 : Int32) (ea4 : Int32) (ea5 : Int32) (ea6 : Int32) (ea7 : Int32) (ea8 : Int32) (ea9 : Int32) (ea10 : Int32) (ea11 : Int32) (ea12 : Int32) (ea13 : Int32) (ea14 : Int32) (ea15 : Int32) : entryFrame m #[(.ref a1), (.int (10 : Int32))] 2 = mkF m 0 #[.val (.ref a1), .val (.int (10 : Int32))] [] := by first | (simp [entryFrame, mkF, argsToLocals, Value.category]; done) | rfl
set_option maxRecDepth 65536 in
set_option maxHeartbeats 40000000 in
theorem own_get16_10 (l : Launch) (Z : State) (a0 : Array Value) (hw : ∀ d ∈ tables_1, d.before a0 Z = true) (ws : List Jvm.Cond) (a1 : Addr) (a2 : Addr) (kc1 : ClassId) (ea0 : Int32) (ea1 : Int32) (ea2 : Int32) (ea3 : Int32) (ea4 : Int32) (ea5 : Int32) (ea6 : Int32) (ea7 : Int32) (ea8 : Int32) (ea9 : Int32) (ea10 : Int32) (ea11 : Int32) (ea12 : Int32) (ea13 : Int32) (ea14 : Int32) (ea15 : Int32) (h0 : Heap) (n0 : Nat) (Z0 : n0 ≤ h0.size) (F_values_a1 : Fld Z h0 a1 "com/example/kalchas/kalchas/IntList" "values" "[I" (.ref a2)) (V_a2 : Arv Z h0 a2 kc1 .int (16 : Int32) [(.int ea0), (.int ea1), (.int ea2), (.int ea3), (.int ea4), (.int ea5), (.int ea6), (.int ea7), (.int ea8), (.int ea9), (.int ea10), (.int ea11), (.int ea12), (.int ea13), (.int ea14), (.int ea15)] (.int (0 : Int32))) :
    MetFree l own_y6 (head1 (Jvm.Cond.code own_y6 prog_14_method_5_code 2 (some .int) :: ws) ({ frames := 0, cells := 0, slots := 0, locals := 0 } : Room)) (fun a U => a = #[(.ref a1), (.int (10 : Int32))] ∧ Z.Warmed39 U.vm ∧ U.heap = h0) (fun _ _ _ _ _ => True) (fun _ U o U' => ∃ v L, o = .returned v ∧ own_get16_10_Q a1 a2 kc1 ea0 ea1 ea2 ea3 ea4 ea5 ea6 ea7 ea8 ea9 ea10 ea11 ea12 ea13 ea14 ea15 h0 v U'.heap L ∧ FrameEnd U o U' L ({ frames := 0, cells := 0, slots := 0, locals := 0 } : Room).cells ({ frames := 0, cells := 0, slots := 0, locals := 0 } : Room).slots) := by
  refine MetFree.of_bodySF (plainFor_of_name own_pn_IntList) hisR ?_
  intro p e s m args below meth c s₁ Bd hml0 hP hK
  obtain ⟨rfl, hZ, hh⟩ := hP
  have hx := Bd.exec
  have hby := Bd.bytes
  have hml : c.maxLocals = 2 := hml0
  have hown : s.vm.findClass "com/example/kalchas/kalchas/IntList" = some m.cls := findClass_of_methodNamed Bd.named
  have hnm := (name_of_methodNamed Bd.named Bd.method).1
  have X0 : Stand p l e ({ frames := 0, cells := 0, slots := 0, locals := 0 } : Room) s m #[(.ref a1), (.int (10 : Int32))] below meth c s₁ [] 0 0 := Stand.of_body Bd
  have e0 : s₁.heap = h0 := by rw [← hh, Bd.state]; rfl
  show own_E p e below (own_K (own_get16_10_Q a1 a2 kc1 ea0 ea1 ea2 ea3 ea4 ea5 ea6 ea7 ea8 ea9 ea10 ea11 ea12 ea13 ea14 ea15 h0) s ({ frames := 0, cells := 0, slots := 0, locals := 0 } : Room).cells ({ frames := 0, cells := 0, slots := 0, locals := 0 } : Room).slots) s₁ (entryFrame m #[(.ref a1), (.int (10 : Int32))] 2)
  refine own_pre (own_get16_10_ef m a1 a2 kc1 ea0 ea1 ea2 ea3 ea4 ea5 ea6 ea7 ea8 ea9 ea10 ea11 ea12 ea13 ea14 ea15) ?_
  show own_E p e below _ s₁ (mkF m 0 #[rv a1, iv 10] [])
  refine own_st (fun t k => XS.aloadN X0.here hx rfl (hb hby own_d_prog_14_method_5_0) rfl rfl k) ?_
  show own_E p e below _ s₁ (mkF m 1 #[rv a1, iv 10] [.ref a1])
  obtain ⟨T1, X1, e1, st1⟩ := getF X0 hx hZ hown (host := "") (Or.inl (own_w hw 11 rfl)) Via.refl e0 F_values_a1 (g := (mkF m 1 #[rv a1, iv 10] [.ref a1])) rfl rfl (hb hby own_d_prog_14_method_5_1)
  refine own_st st1 ?_
  show own_E p e below _ T1 (mkF m 4 #[rv a1, iv 10] [.ref a2])
  refine own_st (fun t k => XS.iloadN X1.here hx rfl (hb hby own_d_prog_14_method_5_4) rfl k) ?_
  show own_E p e below _ T1 (mkF m 5 #[rv a1, iv 10] [.int 10, .ref a2])
  refine own_st (own_ald X1 hx hZ e1 V_a2 (j := (10 : Int32)) ⟨by decide, by decide⟩ (v := (.int ea10)) rfl (g := (mkF m 5 #[rv a1, iv 10] [.int 10, .ref a2])) rfl rfl (hb hby own_d_prog_14_method_5_5)) ?_
  show own_E p e below _ T1 (mkF m 6 #[rv a1, iv 10] [.int ea10])
  refine own_retI X1 hx Bd.notSynchronized Bd.returns (hb hby own_d_prog_14_method_5_6) (by decide) (by decide) ?_
  exact ⟨rfl, e1, rfl⟩
def own_get16_11_Q (a1 : Addr) (a2 : Addr) (kc1 : ClassId) (ea0 : Int32) (ea1 : Int32) (ea2 : Int32) (ea3 : Int32) (ea4 : Int32) (ea5 : Int32) (ea6 : Int32) (ea7 : Int32) (ea8 : Int32) (ea9 : Int32) (ea10 : Int32) (ea11 : Int32) (ea12 : Int32) (ea13 : Int32) (ea14 : Int32) (ea15 : Int32) (h0 : Heap) (v : Option Value) (h : Heap) (L : List Loc) : Prop := ((v = some (.int ea11))) ∧ h = h0 ∧ L = []
theorem own_get16_11_ef (m : MethodId) (a1 : Addr) (a2 : Addr) (kc1 : ClassId) (ea0 : Int32) (ea1 : Int32) (ea2 : Int32) (ea3 : Int32) (ea4 : Int32) (ea5 : Int32) (ea6 : Int32) (ea7 : Int32) (ea8 : Int32) (ea9 : Int32) (ea10 : Int32) (ea11 : Int32) (ea12 : Int32) (ea13 : Int32) (ea14 : Int32) (ea15 : Int32) : entryFrame m #[(.ref a1), (.int (11 : Int32))] 2 = mkF m 0 #[.val (.ref a1), .val (.int (11 : Int32))] [] := by first | (simp [entryFrame, mkF, argsToLocals, Value.category]; done) | rfl
set_option maxRecDepth 65536 in
set_option maxHeartbeats 40000000 in
theorem own_get16_11 (l : Launch) (Z : State) (a0 : Array Value) (hw : ∀ d ∈ tables_1, d.before a0 Z = true) (ws : List Jvm.Cond) (a1 : Addr) (a2 : Addr) (kc1 : ClassId) (ea0 : Int32) (ea1 : Int32) (ea2 : Int32) (ea3 : Int32) (ea4 : Int32) (ea5 : Int32) (ea6 : Int32) (ea7 : Int32) (ea8 : Int32) (ea9 : Int32) (ea10 : Int32) (ea11 : Int32) (ea12 : Int32) (ea13 : Int32) (ea14 : Int32) (ea15 : Int32) (h0 : Heap) (n0 : Nat) (Z0 : n0 ≤ h0.size) (F_values_a1 : Fld Z h0 a1 "com/example/kalchas/kalchas/IntList" "values" "[I" (.ref a2)) (V_a2 : Arv Z h0 a2 kc1 .int (16 : Int32) [(.int ea0), (.int ea1), (.int ea2), (.int ea3), (.int ea4), (.int ea5), (.int ea6), (.int ea7), (.int ea8), (.int ea9), (.int ea10), (.int ea11), (.int ea12), (.int ea13), (.int ea14), (.int ea15)] (.int (0 : Int32))) :
    MetFree l own_y6 (head1 (Jvm.Cond.code own_y6 prog_14_method_5_code 2 (some .int) :: ws) ({ frames := 0, cells := 0, slots := 0, locals := 0 } : Room)) (fun a U => a = #[(.ref a1), (.int (11 : Int32))] ∧ Z.Warmed39 U.vm ∧ U.heap = h0) (fun _ _ _ _ _ => True) (fun _ U o U' => ∃ v L, o = .returned v ∧ own_get16_11_Q a1 a2 kc1 ea0 ea1 ea2 ea3 ea4 ea5 ea6 ea7 ea8 ea9 ea10 ea11 ea12 ea13 ea14 ea15 h0 v U'.heap L ∧ FrameEnd U o U' L ({ frames := 0, cells := 0, slots := 0, locals := 0 } : Room).cells ({ frames := 0, cells := 0, slots := 0, locals := 0 } : Room).slots) := by
  refine MetFree.of_bodySF (plainFor_of_name own_pn_IntList) hisR ?_
  intro p e s m args below meth c s₁ Bd hml0 hP hK
  obtain ⟨rfl, hZ, hh⟩ := hP
  have hx := Bd.exec
  have hby := Bd.bytes
  have hml : c.maxLocals = 2 := hml0
  have hown : s.vm.findClass "com/example/kalchas/kalchas/IntList" = some m.cls := findClass_of_methodNamed Bd.named
  have hnm := (name_of_methodNamed Bd.named Bd.method).1
  have X0 : Stand p l e ({ frames := 0, cells := 0, slots := 0, locals := 0 } : Room) s m #[(.ref a1), (.int (11 : Int32))] below meth c s₁ [] 0 0 := Stand.of_body Bd
  have e0 : s₁.heap = h0 := by rw [← hh, Bd.state]; rfl
  show own_E p e below (own_K (own_get16_11_Q a1 a2 kc1 ea0 ea1 ea2 ea3 ea4 ea5 ea6 ea7 ea8 ea9 ea10 ea11 ea12 ea13 ea14 ea15 h0) s ({ frames := 0, cells := 0, slots := 0, locals := 0 } : Room).cells ({ frames := 0, cells := 0, slots := 0, locals := 0 } : Room).slots) s₁ (entryFrame m #[(.ref a1), (.int (11 : Int32))] 2)
  refine own_pre (own_get16_11_ef m a1 a2 kc1 ea0 ea1 ea2 ea3 ea4 ea5 ea6 ea7 ea8 ea9 ea10 ea11 ea12 ea13 ea14 ea15) ?_
  show own_E p e below _ s₁ (mkF m 0 #[rv a1, iv 11] [])
  refine own_st (fun t k => XS.aloadN X0.here hx rfl (hb hby own_d_prog_14_method_5_0) rfl rfl k) ?_
  show own_E p e below _ s₁ (mkF m 1 #[rv a1, iv 11] [.ref a1])
  obtain ⟨T1, X1, e1, st1⟩ := getF X0 hx hZ hown (host := "") (Or.inl (own_w hw 11 rfl)) Via.refl e0 F_values_a1 (g := (mkF m 1 #[rv a1, iv 11] [.ref a1])) rfl rfl (hb hby own_d_prog_14_method_5_1)
  refine own_st st1 ?_
  show own_E p e below _ T1 (mkF m 4 #[rv a1, iv 11] [.ref a2])
  refine own_st (fun t k => XS.iloadN X1.here hx rfl (hb hby own_d_prog_14_method_5_4) rfl k) ?_
  show own_E p e below _ T1 (mkF m 5 #[rv a1, iv 11] [.int 11, .ref a2])
  refine own_st (own_ald X1 hx hZ e1 V_a2 (j := (11 : Int32)) ⟨by decide, by decide⟩ (v := (.int ea11)) rfl (g := (mkF m 5 #[rv a1, iv 11] [.int 11, .ref a2])) rfl rfl (hb hby own_d_prog_14_method_5_5)) ?_
  show own_E p e below _ T1 (mkF m 6 #[rv a1, iv 11] [.int ea11])
  refine own_retI X1 hx Bd.notSynchronized Bd.returns (hb hby own_d_prog_14_method_5_6) (by decide) (by decide) ?_
  exact ⟨rfl, e1, rfl⟩
def own_get16_12_Q (a1 : Addr) (a2 : Addr) (kc1 : ClassId) (ea0 : Int32) (ea1 : Int32) (ea2 : Int32) (ea3 : Int32) (ea4 : Int32) (ea5 : Int32) (ea6 : Int32) (ea7 : Int32) (ea8 : Int32) (ea9 : Int32) (ea10 : Int32) (ea11 : Int32) (ea12 : Int32) (ea13 : Int32) (ea14 : Int32) (ea15 : Int32) (h0 : Heap) (v : Option Value) (h : Heap) (L : List Loc) : Prop := ((v = some (.int ea12))) ∧ h = h0 ∧ L = []
theorem own_get16_12_ef (m : MethodId) (a1 : Addr) (a2 : Addr) (kc1 : ClassId) (ea0 : Int32) (ea1 : Int32) (ea2 : Int32) (ea3 : Int32) (ea4 : Int32) (ea5 : Int32) (ea6 : Int32) (ea7 : Int32) (ea8 : Int32) (ea9 : Int32) (ea10 : Int32) (ea11 : Int32) (ea12 : Int32) (ea13 : Int32) (ea14 : Int32) (ea15 : Int32) : entryFrame m #[(.ref a1), (.int (12 : Int32))] 2 = mkF m 0 #[.val (.ref a1), .val (.int (12 : Int32))] [] := by first | (simp [entryFrame, mkF, argsToLocals, Value.category]; done) | rfl
set_option maxRecDepth 65536 in
set_option maxHeartbeats 40000000 in
theorem own_get16_12 (l : Launch) (Z : State) (a0 : Array Value) (hw : ∀ d ∈ tables_1, d.before a0 Z = true) (ws : List Jvm.Cond) (a1 : Addr) (a2 : Addr) (kc1 : ClassId) (ea0 : Int32) (ea1 : Int32) (ea2 : Int32) (ea3 : Int32) (ea4 : Int32) (ea5 : Int32) (ea6 : Int32) (ea7 : Int32) (ea8 : Int32) (ea9 : Int32) (ea10 : Int32) (ea11 : Int32) (ea12 : Int32) (ea13 : Int32) (ea14 : Int32) (ea15 : Int32) (h0 : Heap) (n0 : Nat) (Z0 : n0 ≤ h0.size) (F_values_a1 : Fld Z h0 a1 "com/example/kalchas/kalchas/IntList" "values" "[I" (.ref a2)) (V_a2 : Arv Z h0 a2 kc1 .int (16 : Int32) [(.int ea0), (.int ea1), (.int ea2), (.int ea3), (.int ea4), (.int ea5), (.int ea6), (.int ea7), (.int ea8), (.int ea9), (.int ea10), (.int ea11), (.int ea12), (.int ea13), (.int ea14), (.int ea15)] (.int (0 : Int32))) :
    MetFree l own_y6 (head1 (Jvm.Cond.code own_y6 prog_14_method_5_code 2 (some .int) :: ws) ({ frames := 0, cells := 0, slots := 0, locals := 0 } : Room)) (fun a U => a = #[(.ref a1), (.int (12 : Int32))] ∧ Z.Warmed39 U.vm ∧ U.heap = h0) (fun _ _ _ _ _ => True) (fun _ U o U' => ∃ v L, o = .returned v ∧ own_get16_12_Q a1 a2 kc1 ea0 ea1 ea2 ea3 ea4 ea5 ea6 ea7 ea8 ea9 ea10 ea11 ea12 ea13 ea14 ea15 h0 v U'.heap L ∧ FrameEnd U o U' L ({ frames := 0, cells := 0, slots := 0, locals := 0 } : Room).cells ({ frames := 0, cells := 0, slots := 0, locals := 0 } : Room).slots) := by
  refine MetFree.of_bodySF (plainFor_of_name own_pn_IntList) hisR ?_
  intro p e s m args below meth c s₁ Bd hml0 hP hK
  obtain ⟨rfl, hZ, hh⟩ := hP
  have hx := Bd.exec
  have hby := Bd.bytes
  have hml : c.maxLocals = 2 := hml0
  have hown : s.vm.findClass "com/example/kalchas/kalchas/IntList" = some m.cls := findClass_of_methodNamed Bd.named
  have hnm := (name_of_methodNamed Bd.named Bd.method).1
  have X0 : Stand p l e ({ frames := 0, cells := 0, slots := 0, locals := 0 } : Room) s m #[(.ref a1), (.int (12 : Int32))] below meth c s₁ [] 0 0 := Stand.of_body Bd
  have e0 : s₁.heap = h0 := by rw [← hh, Bd.state]; rfl
  show own_E p e below (own_K (own_get16_12_Q a1 a2 kc1 ea0 ea1 ea2 ea3 ea4 ea5 ea6 ea7 ea8 ea9 ea10 ea11 ea12 ea13 ea14 ea15 h0) s ({ frames := 0, cells := 0, slots := 0, locals := 0 } : Room).cells ({ frames := 0, cells := 0, slots := 0, locals := 0 } : Room).slots) s₁ (entryFrame m #[(.ref a1), (.int (12 : Int32))] 2)
  refine own_pre (own_get16_12_ef m a1 a2 kc1 ea0 ea1 ea2 ea3 ea4 ea5 ea6 ea7 ea8 ea9 ea10 ea11 ea12 ea13 ea14 ea15) ?_
  show own_E p e below _ s₁ (mkF m 0 #[rv a1, iv 12] [])
  refine own_st (fun t k => XS.aloadN X0.here hx rfl (hb hby own_d_prog_14_method_5_0) rfl rfl k) ?_
  show own_E p e below _ s₁ (mkF m 1 #[rv a1, iv 12] [.ref a1])
  obtain ⟨T1, X1, e1, st1⟩ := getF X0 hx hZ hown (host := "") (Or.inl (own_w hw 11 rfl)) Via.refl e0 F_values_a1 (g := (mkF m 1 #[rv a1, iv 12] [.ref a1])) rfl rfl (hb hby own_d_prog_14_method_5_1)
  refine own_st st1 ?_
  show own_E p e below _ T1 (mkF m 4 #[rv a1, iv 12] [.ref a2])
  refine own_st (fun t k => XS.iloadN X1.here hx rfl (hb hby own_d_prog_14_method_5_4) rfl k) ?_
  show own_E p e below _ T1 (mkF m 5 #[rv a1, iv 12] [.int 12, .ref a2])
  refine own_st (own_ald X1 hx hZ e1 V_a2 (j := (12 : Int32)) ⟨by decide, by decide⟩ (v := (.int ea12)) rfl (g := (mkF m 5 #[rv a1, iv 12] [.int 12, .ref a2])) rfl rfl (hb hby own_d_prog_14_method_5_5)) ?_
  show own_E p e below _ T1 (mkF m 6 #[rv a1, iv 12] [.int ea12])
  refine own_retI X1 hx Bd.notSynchronized Bd.returns (hb hby own_d_prog_14_method_5_6) (by decide) (by decide) ?_
  exact ⟨rfl, e1, rfl⟩
def own_get16_13_Q (a1 : Addr) (a2 : Addr) (kc1 : ClassId) (ea0 : Int32) (ea1 : Int32) (ea2 : Int32) (ea3 : Int32) (ea4 : Int32) (ea5 : Int32) (ea6 : Int32) (ea7 : Int32) (ea8 : Int32) (ea9 : Int32) (ea10 : Int32) (ea11 : Int32) (ea12 : Int32) (ea13 : Int32) (ea14 : Int32) (ea15 : Int32) (h0 : Heap) (v : Option Value) (h : Heap) (L : List Loc) : Prop := ((v = some (.int ea13))) ∧ h = h0 ∧ L = []
theorem own_get16_13_ef (m : MethodId) (a1 : Addr) (a2 : Addr) (kc1 : ClassId) (ea0 : Int32) (ea1 : Int32) (ea2 : Int32) (ea3 : Int32) (ea4 : Int32) (ea5 : Int32) (ea6 : Int32) (ea7 : Int32) (ea8 : Int32) (ea9 : Int32) (ea10 : Int32) (ea11 : Int32) (ea12 : Int32) (ea13 : Int32) (ea14 : Int32) (ea15 : Int32) : entryFrame m #[(.ref a1), (.int (13 : Int32))] 2 = mkF m 0 #[.val (.ref a1), .val (.int (13 : Int32))] [] := by first | (simp [entryFrame, mkF, argsToLocals, Value.category]; done) | rfl
set_option maxRecDepth 65536 in
set_option maxHeartbeats 40000000 in
theorem own_get16_13 (l : Launch) (Z : State) (a0 : Array Value) (hw : ∀ d ∈ tables_1, d.before a0 Z = true) (ws : List Jvm.Cond) (a1 : Addr) (a2 : Addr) (kc1 : ClassId) (ea0 : Int32) (ea1 : Int32) (ea2 : Int32) (ea3 : Int32) (ea4 : Int32) (ea5 : Int32) (ea6 : Int32) (ea7 : Int32) (ea8 : Int32) (ea9 : Int32) (ea10 : Int32) (ea11 : Int32) (ea12 : Int32) (ea13 : Int32) (ea14 : Int32) (ea15 : Int32) (h0 : Heap) (n0 : Nat) (Z0 : n0 ≤ h0.size) (F_values_a1 : Fld Z h0 a1 "com/example/kalchas/kalchas/IntList" "values" "[I" (.ref a2)) (V_a2 : Arv Z h0 a2 kc1 .int (16 : Int32) [(.int ea0), (.int ea1), (.int ea2), (.int ea3), (.int ea4), (.int ea5), (.int ea6), (.int ea7), (.int ea8), (.int ea9), (.int ea10), (.int ea11), (.int ea12), (.int ea13), (.int ea14), (.int ea15)] (.int (0 : Int32))) :
    MetFree l own_y6 (head1 (Jvm.Cond.code own_y6 prog_14_method_5_code 2 (some .int) :: ws) ({ frames := 0, cells := 0, slots := 0, locals := 0 } : Room)) (fun a U => a = #[(.ref a1), (.int (13 : Int32))] ∧ Z.Warmed39 U.vm ∧ U.heap = h0) (fun _ _ _ _ _ => True) (fun _ U o U' => ∃ v L, o = .returned v ∧ own_get16_13_Q a1 a2 kc1 ea0 ea1 ea2 ea3 ea4 ea5 ea6 ea7 ea8 ea9 ea10 ea11 ea12 ea13 ea14 ea15 h0 v U'.heap L ∧ FrameEnd U o U' L ({ frames := 0, cells := 0, slots := 0, locals := 0 } : Room).cells ({ frames := 0, cells := 0, slots := 0, locals := 0 } : Room).slots) := by
  refine MetFree.of_bodySF (plainFor_of_name own_pn_IntList) hisR ?_
  intro p e s m args below meth c s₁ Bd hml0 hP hK
  obtain ⟨rfl, hZ, hh⟩ := hP
  have hx := Bd.exec
  have hby := Bd.bytes
  have hml : c.maxLocals = 2 := hml0
  have hown : s.vm.findClass "com/example/kalchas/kalchas/IntList" = some m.cls := findClass_of_methodNamed Bd.named
  have hnm := (name_of_methodNamed Bd.named Bd.method).1
  have X0 : Stand p l e ({ frames := 0, cells := 0, slots := 0, locals := 0 } : Room) s m #[(.ref a1), (.int (13 : Int32))] below meth c s₁ [] 0 0 := Stand.of_body Bd
  have e0 : s₁.heap = h0 := by rw [← hh, Bd.state]; rfl
  show own_E p e below (own_K (own_get16_13_Q a1 a2 kc1 ea0 ea1 ea2 ea3 ea4 ea5 ea6 ea7 ea8 ea9 ea10 ea11 ea12 ea13 ea14 ea15 h0) s ({ frames := 0, cells := 0, slots := 0, locals := 0 } : Room).cells ({ frames := 0, cells := 0, slots := 0, locals := 0 } : Room).slots) s₁ (entryFrame m #[(.ref a1), (.int (13 : Int32))] 2)
  refine own_pre (own_get16_13_ef m a1 a2 kc1 ea0 ea1 ea2 ea3 ea4 ea5 ea6 ea7 ea8 ea9 ea10 ea11 ea12 ea13 ea14 ea15) ?_
  show own_E p e below _ s₁ (mkF m 0 #[rv a1, iv 13] [])
  refine own_st (fun t k => XS.aloadN X0.here hx rfl (hb hby own_d_prog_14_method_5_0) rfl rfl k) ?_
  show own_E p e below _ s₁ (mkF m 1 #[rv a1, iv 13] [.ref a1])
  obtain ⟨T1, X1, e1, st1⟩ := getF X0 hx hZ hown (host := "") (Or.inl (own_w hw 11 rfl)) Via.refl e0 F_values_a1 (g := (mkF m 1 #[rv a1, iv 13] [.ref a1])) rfl rfl (hb hby own_d_prog_14_method_5_1)
  refine own_st st1 ?_
  show own_E p e below _ T1 (mkF m 4 #[rv a1, iv 13] [.ref a2])
  refine own_st (fun t k => XS.iloadN X1.here hx rfl (hb hby own_d_prog_14_method_5_4) rfl k) ?_
  show own_E p e below _ T1 (mkF m 5 #[rv a1, iv 13] [.int 13, .ref a2])
  refine own_st (own_ald X1 hx hZ e1 V_a2 (j := (13 : Int32)) ⟨by decide, by decide⟩ (v := (.int ea13)) rfl (g := (mkF m 5 #[rv a1, iv 13] [.int 13, .ref a2])) rfl rfl (hb hby own_d_prog_14_method_5_5)) ?_
  show own_E p e below _ T1 (mkF m 6 #[rv a1, iv 13] [.int ea13])
  refine own_retI X1 hx Bd.notSynchronized Bd.returns (hb hby own_d_prog_14_method_5_6) (by decide) (by decide) ?_
  exact ⟨rfl, e1, rfl⟩
def own_get16_14_Q (a1 : Addr) (a2 : Addr) (kc1 : ClassId) (ea0 : Int32) (ea1 : Int32) (ea2 : Int32) (ea3 : Int32) (ea4 : Int32) (ea5 : Int32) (ea6 : Int32) (ea7 : Int32) (ea8 : Int32) (ea9 : Int32) (ea10 : Int32) (ea11 : Int32) (ea12 : Int32) (ea13 : Int32) (ea14 : Int32) (ea15 : Int32) (h0 : Heap) (v : Option Value) (h : Heap) (L : List Loc) : Prop := ((v = some (.int ea14))) ∧ h = h0 ∧ L = []
theorem own_get16_14_ef (m : MethodId) (a1 : Addr) (a2 : Addr) (kc1 : ClassId) (ea0 : Int32) (ea1 : Int32) (ea2 : Int32) (ea3 : Int32) (ea4 : Int32) (ea5 : Int32) (ea6 : Int32) (ea7 : Int32) (ea8 : Int32) (ea9 : Int32) (ea10 : Int32) (ea11 : Int32) (ea12 : Int32) (ea13 : Int32) (ea14 : Int32) (ea15 : Int32) : entryFrame m #[(.ref a1), (.int (14 : Int32))] 2 = mkF m 0 #[.val (.ref a1), .val (.int (14 : Int32))] [] := by first | (simp [entryFrame, mkF, argsToLocals, Value.category]; done) | rfl
set_option maxRecDepth 65536 in
set_option maxHeartbeats 40000000 in
theorem own_get16_14 (l : Launch) (Z : State) (a0 : Array Value) (hw : ∀ d ∈ tables_1, d.before a0 Z = true) (ws : List Jvm.Cond) (a1 : Addr) (a2 : Addr) (kc1 : ClassId) (ea0 : Int32) (ea1 : Int32) (ea2 : Int32) (ea3 : Int32) (ea4 : Int32) (ea5 : Int32) (ea6 : Int32) (ea7 : Int32) (ea8 : Int32) (ea9 : Int32) (ea10 : Int32) (ea11 : Int32) (ea12 : Int32) (ea13 : Int32) (ea14 : Int32) (ea15 : Int32) (h0 : Heap) (n0 : Nat) (Z0 : n0 ≤ h0.size) (F_values_a1 : Fld Z h0 a1 "com/example/kalchas/kalchas/IntList" "values" "[I" (.ref a2)) (V_a2 : Arv Z h0 a2 kc1 .int (16 : Int32) [(.int ea0), (.int ea1), (.int ea2), (.int ea3), (.int ea4), (.int ea5), (.int ea6), (.int ea7), (.int ea8), (.int ea9), (.int ea10), (.int ea11), (.int ea12), (.int ea13), (.int ea14), (.int ea15)] (.int (0 : Int32))) :
    MetFree l own_y6 (head1 (Jvm.Cond.code own_y6 prog_14_method_5_code 2 (some .int) :: ws) ({ frames := 0, cells := 0, slots := 0, locals := 0 } : Room)) (fun a U => a = #[(.ref a1), (.int (14 : Int32))] ∧ Z.Warmed39 U.vm ∧ U.heap = h0) (fun _ _ _ _ _ => True) (fun _ U o U' => ∃ v L, o = .returned v ∧ own_get16_14_Q a1 a2 kc1 ea0 ea1 ea2 ea3 ea4 ea5 ea6 ea7 ea8 ea9 ea10 ea11 ea12 ea13 ea14 ea15 h0 v U'.heap L ∧ FrameEnd U o U' L ({ frames := 0, cells := 0, slots := 0, locals := 0 } : Room).cells ({ frames := 0, cells := 0, slots := 0, locals := 0 } : Room).slots) := by
  refine MetFree.of_bodySF (plainFor_of_name own_pn_IntList) hisR ?_
  intro p e s m args below meth c s₁ Bd hml0 hP hK
  obtain ⟨rfl, hZ, hh⟩ := hP
  have hx := Bd.exec
  have hby := Bd.bytes
  have hml : c.maxLocals = 2 := hml0
  have hown : s.vm.findClass "com/example/kalchas/kalchas/IntList" = some m.cls := findClass_of_methodNamed Bd.named
  have hnm := (name_of_methodNamed Bd.named Bd.method).1
  have X0 : Stand p l e ({ frames := 0, cells := 0, slots := 0, locals := 0 } : Room) s m #[(.ref a1), (.int (14 : Int32))] below meth c s₁ [] 0 0 := Stand.of_body Bd
  have e0 : s₁.heap = h0 := by rw [← hh, Bd.state]; rfl
  show own_E p e below (own_K (own_get16_14_Q a1 a2 kc1 ea0 ea1 ea2 ea3 ea4 ea5 ea6 ea7 ea8 ea9 ea10 ea11 ea12 ea13 ea14 ea15 h0) s ({ frames := 0, cells := 0, slots := 0, locals := 0 } : Room).cells ({ frames := 0, cells := 0, slots := 0, locals := 0 } : Room).slots) s₁ (entryFrame m #[(.ref a1), (.int (14 : Int32))] 2)
  refine own_pre (own_get16_14_ef m a1 a2 kc1 ea0 ea1 ea2 ea3 ea4 ea5 ea6 ea7 ea8 ea9 ea10 ea11 ea12 ea13 ea14 ea15) ?_
  show own_E p e below _ s₁ (mkF m 0 #[rv a1, iv 14] [])
  refine own_st (fun t k => XS.aloadN X0.here hx rfl (hb hby own_d_prog_14_method_5_0) rfl rfl k) ?_
  show own_E p e below _ s₁ (mkF m 1 #[rv a1, iv 14] [.ref a1])
  obtain ⟨T1, X1, e1, st1⟩ := getF X0 hx hZ hown (host := "") (Or.inl (own_w hw 11 rfl)) Via.refl e0 F_values_a1 (g := (mkF m 1 #[rv a1, iv 14] [.ref a1])) rfl rfl (hb hby own_d_prog_14_method_5_1)
  refine own_st st1 ?_
  show own_E p e below _ T1 (mkF m 4 #[rv a1, iv 14] [.ref a2])
  refine own_st (fun t k => XS.iloadN X1.here hx rfl (hb hby own_d_prog_14_method_5_4) rfl k) ?_
  show own_E p e below _ T1 (mkF m 5 #[rv a1, iv 14] [.int 14, .ref a2])
  refine own_st (own_ald X1 hx hZ e1 V_a2 (j := (14 : Int32)) ⟨by decide, by decide⟩ (v := (.int ea14)) rfl (g := (mkF m 5 #[rv a1, iv 14] [.int 14, .ref a2])) rfl rfl (hb hby own_d_prog_14_method_5_5)) ?_
  show own_E p e below _ T1 (mkF m 6 #[rv a1, iv 14] [.int ea14])
  refine own_retI X1 hx Bd.notSynchronized Bd.returns (hb hby own_d_prog_14_method_5_6) (by decide) (by decide) ?_
  exact ⟨rfl, e1, rfl⟩
def own_get16_15_Q (a1 : Addr) (a2 : Addr) (kc1 : ClassId) (ea0 : Int32) (ea1 : Int32) (ea2 : Int32) (ea3 : Int32) (ea4 : Int32) (ea5 : Int32) (ea6 : Int32) (ea7 : Int32) (ea8 : Int32) (ea9 : Int32) (ea10 : Int32) (ea11 : Int32) (ea12 : Int32) (ea13 : Int32) (ea14 : Int32) (ea15 : Int32) (h0 : Heap) (v : Option Value) (h : Heap) (L : List Loc) : Prop := ((v = some (.int ea15))) ∧ h = h0 ∧ L = []
theorem own_get16_15_ef (m : MethodId) (a1 : Addr) (a2 : Addr) (kc1 : ClassId) (ea0 : Int32) (ea1 : Int32) (ea2 : Int32) (ea3 : Int32) (ea4 : Int32) (ea5 : Int32) (ea6 : Int32) (ea7 : Int32) (ea8 : Int32) (ea9 : Int32) (ea10 : Int32) (ea11 : Int32) (ea12 : Int32) (ea13 : Int32) (ea14 : Int32) (ea15 : Int32) : entryFrame m #[(.ref a1), (.int (15 : Int32))] 2 = mkF m 0 #[.val (.ref a1), .val (.int (15 : Int32))] [] := by first | (simp [entryFrame, mkF, argsToLocals, Value.category]; done) | rfl
set_option maxRecDepth 65536 in
set_option maxHeartbeats 40000000 in
theorem own_get16_15 (l : Launch) (Z : State) (a0 : Array Value) (hw : ∀ d ∈ tables_1, d.before a0 Z = true) (ws : List Jvm.Cond) (a1 : Addr) (a2 : Addr) (kc1 : ClassId) (ea0 : Int32) (ea1 : Int32) (ea2 : Int32) (ea3 : Int32) (ea4 : Int32) (ea5 : Int32) (ea6 : Int32) (ea7 : Int32) (ea8 : Int32) (ea9 : Int32) (ea10 : Int32) (ea11 : Int32) (ea12 : Int32) (ea13 : Int32) (ea14 : Int32) (ea15 : Int32) (h0 : Heap) (n0 : Nat) (Z0 : n0 ≤ h0.size) (F_values_a1 : Fld Z h0 a1 "com/example/kalchas/kalchas/IntList" "values" "[I" (.ref a2)) (V_a2 : Arv Z h0 a2 kc1 .int (16 : Int32) [(.int ea0), (.int ea1), (.int ea2), (.int ea3), (.int ea4), (.int ea5), (.int ea6), (.int ea7), (.int ea8), (.int ea9), (.int ea10), (.int ea11), (.int ea12), (.int ea13), (.int ea14), (.int ea15)] (.int (0 : Int32))) :
    MetFree l own_y6 (head1 (Jvm.Cond.code own_y6 prog_14_method_5_code 2 (some .int) :: ws) ({ frames := 0, cells := 0, slots := 0, locals := 0 } : Room)) (fun a U => a = #[(.ref a1), (.int (15 : Int32))] ∧ Z.Warmed39 U.vm ∧ U.heap = h0) (fun _ _ _ _ _ => True) (fun _ U o U' => ∃ v L, o = .returned v ∧ own_get16_15_Q a1 a2 kc1 ea0 ea1 ea2 ea3 ea4 ea5 ea6 ea7 ea8 ea9 ea10 ea11 ea12 ea13 ea14 ea15 h0 v U'.heap L ∧ FrameEnd U o U' L ({ frames := 0, cells := 0, slots := 0, locals := 0 } : Room).cells ({ frames := 0, cells := 0, slots := 0, locals := 0 } : Room).slots) := by
  refine MetFree.of_bodySF (plainFor_of_name own_pn_IntList) hisR ?_
  intro p e s m args below meth c s₁ Bd hml0 hP hK
  obtain ⟨rfl, hZ, hh⟩ := hP
  have hx := Bd.exec
  have hby := Bd.bytes
  have hml : c.maxLocals = 2 := hml0
  have hown : s.vm.findClass "com/example/kalchas/kalchas/IntList" = some m.cls := findClass_of_methodNamed Bd.named
  have hnm := (name_of_methodNamed Bd.named Bd.method).1
  have X0 : Stand p l e ({ frames := 0, cells := 0, slots := 0, locals := 0 } : Room) s m #[(.ref a1), (.int (15 : Int32))] below meth c s₁ [] 0 0 := Stand.of_body Bd
  have e0 : s₁.heap = h0 := by rw [← hh, Bd.state]; rfl
  show own_E p e below (own_K (own_get16_15_Q a1 a2 kc1 ea0 ea1 ea2 ea3 ea4 ea5 ea6 ea7 ea8 ea9 ea10 ea11 ea12 ea13 ea14 ea15 h0) s ({ frames := 0, cells := 0, slots := 0, locals := 0 } : Room).cells ({ frames := 0, cells := 0, slots := 0, locals := 0 } : Room).slots) s₁ (entryFrame m #[(.ref a1), (.int (15 : Int32))] 2)
  refine own_pre (own_get16_15_ef m a1 a2 kc1 ea0 ea1 ea2 ea3 ea4 ea5 ea6 ea7 ea8 ea9 ea10 ea11 ea12 ea13 ea14 ea15) ?_
  show own_E p e below _ s₁ (mkF m 0 #[rv a1, iv 15] [])
  refine own_st (fun t k => XS.aloadN X0.here hx rfl (hb hby own_d_prog_14_method_5_0) rfl rfl k) ?_
  show own_E p e below _ s₁ (mkF m 1 #[rv a1, iv 15] [.ref a1])
  obtain ⟨T1, X1, e1, st1⟩ := getF X0 hx hZ hown (host := "") (Or.inl (own_w hw 11 rfl)) Via.refl e0 F_values_a1 (g := (mkF m 1 #[rv a1, iv 15] [.ref a1])) rfl rfl (hb hby own_d_prog_14_method_5_1)
  refine own_st st1 ?_
  show own_E p e below _ T1 (mkF m 4 #[rv a1, iv 15] [.ref a2])
  refine own_st (fun t k => XS.iloadN X1.here hx rfl (hb hby own_d_prog_14_method_5_4) rfl k) ?_
  show own_E p e below _ T1 (mkF m 5 #[rv a1, iv 15] [.int 15, .ref a2])
  refine own_st (own_ald X1 hx hZ e1 V_a2 (j := (15 : Int32)) ⟨by decide, by decide⟩ (v := (.int ea15)) rfl (g := (mkF m 5 #[rv a1, iv 15] [.int 15, .ref a2])) rfl rfl (hb hby own_d_prog_14_method_5_5)) ?_
  show own_E p e below _ T1 (mkF m 6 #[rv a1, iv 15] [.int ea15])
  refine own_retI X1 hx Bd.notSynchronized Bd.returns (hb hby own_d_prog_14_method_5_6) (by decide) (by decide) ?_
  exact ⟨rfl, e1, rfl⟩
def own_get32_14_Q (a1 : Addr) (a2 : Addr) (kc1 : ClassId) (ea0 : Int32) (ea1 : Int32) (ea2 : Int32) (ea3 : Int32) (ea4 : Int32) (ea5 : Int32) (ea6 : Int32) (ea7 : Int32) (ea8 : Int32) (ea9 : Int32) (ea10 : Int32) (ea11 : Int32) (ea12 : Int32) (ea13 : Int32) (ea14 : Int32) (ea15 : Int32) (ea16 : Int32) (ea17 : Int32) (ea18 : Int32) (ea19 : Int32) (ea20 : Int32) (ea21 : Int32) (ea22 : Int32) (ea23 : Int32) (ea24 : Int32) (ea25 : Int32) (ea26 : Int32) (ea27 : Int32) (ea28 : Int32) (ea29 : Int32) (ea30 : Int32) (ea31 : Int32) (h0 : Heap) (v : Option Value) (h : Heap) (L : List Loc) : Prop := ((v = some (.int ea14))) ∧ h = h0 ∧ L = []
theorem own_get32_14_ef (m : MethodId) (a1 : Addr) (a2 : Addr) (kc1 : ClassId) (ea0 : Int32) (ea1 : Int32) (ea2 : Int32) (ea3 : Int32) (ea4 : Int32) (ea5 : Int32) (ea6 : Int32) (ea7 : Int32) (ea8 : Int32) (ea9 : Int32) (ea10 : Int32) (ea11 : Int32) (ea12 : Int32) (ea13 : Int32) (ea14 : Int32) (ea15 : Int32) (ea16 : Int32) (ea17 : Int32) (ea18 : Int32) (ea19 : Int32) (ea20 : Int32) (ea21 : Int32) (ea22 : Int32) (ea23 : Int32) (ea24 : Int32) (ea25 : Int32) (ea26 : Int32) (ea27 : Int32) (ea28 : Int32) (ea29 : Int32) (ea30 : Int32) (ea31 : Int32) : entryFrame m #[(.ref a1), (.int (14 : Int32))] 2 = mkF m 0 #[.val (.ref a1), .val (.int (14 : Int32))] [] := by first | (simp [entryFrame, mkF, argsToLocals, Value.category]; done) | rfl
set_option maxRecDepth 65536 in
set_option maxHeartbeats 40000000 in
theorem own_get32_14 (l : Launch) (Z : State) (a0 : Array Value) (hw : ∀ d ∈ tables_1, d.before a0 Z = true) (ws : List Jvm.Cond) (a1 : Addr) (a2 : Addr) (kc1 : ClassId) (ea0 : Int32) (ea1 : Int32) (ea2 : Int32) (ea3 : Int32) (ea4 : Int32) (ea5 : Int32) (ea6 : Int32) (ea7 : Int32) (ea8 : Int32) (ea9 : Int32) (ea10 : Int32) (ea11 : Int32) (ea12 : Int32) (ea13 : Int32) (ea14 : Int32) (ea15 : Int32) (ea16 : Int32) (ea17 : Int32) (ea18 : Int32) (ea19 : Int32) (ea20 : Int32) (ea21 : Int32) (ea22 : Int32) (ea23 : Int32) (ea24 : Int32) (ea25 : Int32) (ea26 : Int32) (ea27 : Int32) (ea28 : Int32) (ea29 : Int32) (ea30 : Int32) (ea31 : Int32) (h0 : Heap) (n0 : Nat) (Z0 : n0 ≤ h0.size) (F_values_a1 : Fld Z h0 a1 "com/example/kalchas/kalchas/IntList" "values" "[I" (.ref a2)) (V_a2 : Arv Z h0 a2 kc1 .int (32 : Int32) [(.int ea0), (.int ea1), (.int ea2), (.int ea3), (.int ea4), (.int ea5), (.int ea6), (.int ea7), (.int ea8), (.int ea9), (.int ea10), (.int ea11), (.int ea12), (.int ea13), (.int ea14), (.int ea15), (.int ea16), (.int ea17), (.int ea18), (.int ea19), (.int ea20), (.int ea21), (.int ea22), (.int ea23), (.int ea24), (.int ea25), (.int ea26), (.int ea27), (.int ea28), (.int ea29), (.int ea30), (.int ea31)] (.int (0 : Int32))) :
    MetFree l own_y6 (head1 (Jvm.Cond.code own_y6 prog_14_method_5_code 2 (some .int) :: ws) ({ frames := 0, cells := 0, slots := 0, locals := 0 } : Room)) (fun a U => a = #[(.ref a1), (.int (14 : Int32))] ∧ Z.Warmed39 U.vm ∧ U.heap = h0) (fun _ _ _ _ _ => True) (fun _ U o U' => ∃ v L, o = .returned v ∧ own_get32_14_Q a1 a2 kc1 ea0 ea1 ea2 ea3 ea4 ea5 ea6 ea7 ea8 ea9 ea10 ea11 ea12 ea13 ea14 ea15 ea16 ea17 ea18 ea19 ea20 ea21 ea22 ea23 ea24 ea25 ea26 ea27 ea28 ea29 ea30 ea31 h0 v U'.heap L ∧ FrameEnd U o U' L ({ frames := 0, cells := 0, slots := 0, locals := 0 } : Room).cells ({ frames := 0, cells := 0, slots := 0, locals := 0 } : Room).slots) := by
  refine MetFree.of_bodySF (plainFor_of_name own_pn_IntList) hisR ?_
  intro p e s m args below meth c s₁ Bd hml0 hP hK
  obtain ⟨rfl, hZ, hh⟩ := hP
  have hx := Bd.exec
  have hby := Bd.bytes
  have hml : c.maxLocals = 2 := hml0
  have hown : s.vm.findClass "com/example/kalchas/kalchas/IntList" = some m.cls := findClass_of_methodNamed Bd.named
  have hnm := (name_of_methodNamed Bd.named Bd.method).1
  have X0 : Stand p l e ({ frames := 0, cells := 0, slots := 0, locals := 0 } : Room) s m #[(.ref a1), (.int (14 : Int32))] below meth c s₁ [] 0 0 := Stand.of_body Bd
  have e0 : s₁.heap = h0 := by rw [← hh, Bd.state]; rfl
  show own_E p e below (own_K (own_get32_14_Q a1 a2 kc1 ea0 ea1 ea2 ea3 ea4 ea5 ea6 ea7 ea8 ea9 ea10 ea11 ea12 ea13 ea14 ea15 ea16 ea17 ea18 ea19 ea20 ea21 ea22 ea23 ea24 ea25 ea26 ea27 ea28 ea29 ea30 ea31 h0) s ({ frames := 0, cells := 0, slots := 0, locals := 0 } : Room).cells ({ frames := 0, cells := 0, slots := 0, locals := 0 } : Room).slots) s₁ (entryFrame m #[(.ref a1), (.int (14 : Int32))] 2)
  refine own_pre (own_get32_14_ef m a1 a2 kc1 ea0 ea1 ea2 ea3 ea4 ea5 ea6 ea7 ea8 ea9 ea10 ea11 ea12 ea13 ea14 ea15 ea16 ea17 ea18 ea19 ea20 ea21 ea22 ea23 ea24 ea25 ea26 ea27 ea28 ea29 ea30 ea31) ?_
  show own_E p e below _ s₁ (mkF m 0 #[rv a1, iv 14] [])
  refine own_st (fun t k => XS.aloadN X0.here hx rfl (hb hby own_d_prog_14_method_5_0) rfl rfl k) ?_
  show own_E p e below _ s₁ (mkF m 1 #[rv a1, iv 14] [.ref a1])
  obtain ⟨T1, X1, e1, st1⟩ := getF X0 hx hZ hown (host := "") (Or.inl (own_w hw 11 rfl)) Via.refl e0 F_values_a1 (g := (mkF m 1 #[rv a1, iv 14] [.ref a1])) rfl rfl (hb hby own_d_prog_14_method_5_1)
  refine own_st st1 ?_
  show own_E p e below _ T1 (mkF m 4 #[rv a1, iv 14] [.ref a2])
  refine own_st (fun t k => XS.iloadN X1.here hx rfl (hb hby own_d_prog_14_method_5_4) rfl k) ?_
  show own_E p e below _ T1 (mkF m 5 #[rv a1, iv 14] [.int 14, .ref a2])
  refine own_st (own_ald X1 hx hZ e1 V_a2 (j := (14 : Int32)) ⟨by decide, by decide⟩ (v := (.int ea14)) rfl (g := (mkF m 5 #[rv a1, iv 14] [.int 14, .ref a2])) rfl rfl (hb hby own_d_prog_14_method_5_5)) ?_
  show own_E p e below _ T1 (mkF m 6 #[rv a1, iv 14] [.int ea14])
  refine own_retI X1 hx Bd.notSynchronized Bd.returns (hb hby own_d_prog_14_method_5_6) (by decide) (by decide) ?_
  exact ⟨rfl, e1, rfl⟩
def own_get32_15_Q (a1 : Addr) (a2 : Addr) (kc1 : ClassId) (ea0 : Int32) (ea1 : Int32) (ea2 : Int32) (ea3 : Int32) (ea4 : Int32) (ea5 : Int32) (ea6 : Int32) (ea7 : Int32) (ea8 : Int32) (ea9 : Int32) (ea10 : Int32) (ea11 : Int32) (ea12 : Int32) (ea13 : Int32) (ea14 : Int32) (ea15 : Int32) (ea16 : Int32) (ea17 : Int32) (ea18 : Int32) (ea19 : Int32) (ea20 : Int32) (ea21 : Int32) (ea22 : Int32) (ea23 : Int32) (ea24 : Int32) (ea25 : Int32) (ea26 : Int32) (ea27 : Int32) (ea28 : Int32) (ea29 : Int32) (ea30 : Int32) (ea31 : Int32) (h0 : Heap) (v : Option Value) (h : Heap) (L : List Loc) : Prop := ((v = some (.int ea15))) ∧ h = h0 ∧ L = []
theorem own_get32_15_ef (m : MethodId) (a1 : Addr) (a2 : Addr) (kc1 : ClassId) (ea0 : Int32) (ea1 : Int32) (ea2 : Int32) (ea3 : Int32) (ea4 : Int32) (ea5 : Int32) (ea6 : Int32) (ea7 : Int32) (ea8 : Int32) (ea9 : Int32) (ea10 : Int32) (ea11 : Int32) (ea12 : Int32) (ea13 : Int32) (ea14 : Int32) (ea15 : Int32) (ea16 : Int32) (ea17 : Int32) (ea18 : Int32) (ea19 : Int32) (ea20 : Int32) (ea21 : Int32) (ea22 : Int32) (ea23 : Int32) (ea24 : Int32) (ea25 : Int32) (ea26 : Int32) (ea27 : Int32) (ea28 : Int32) (ea29 : Int32) (ea30 : Int32) (ea31 : Int32) : entryFrame m #[(.ref a1), (.int (15 : Int32))] 2 = mkF m 0 #[.val (.ref a1), .val (.int (15 : Int32))] [] := by first | (simp [entryFrame, mkF, argsToLocals, Value.category]; done) | rfl
set_option maxRecDepth 65536 in
set_option maxHeartbeats 40000000 in
theorem own_get32_15 (l : Launch) (Z : State) (a0 : Array Value) (hw : ∀ d ∈ tables_1, d.before a0 Z = true) (ws : List Jvm.Cond) (a1 : Addr) (a2 : Addr) (kc1 : ClassId) (ea0 : Int32) (ea1 : Int32) (ea2 : Int32) (ea3 : Int32) (ea4 : Int32) (ea5 : Int32) (ea6 : Int32) (ea7 : Int32) (ea8 : Int32) (ea9 : Int32) (ea10 : Int32) (ea11 : Int32) (ea12 : Int32) (ea13 : Int32) (ea14 : Int32) (ea15 : Int32) (ea16 : Int32) (ea17 : Int32) (ea18 : Int32) (ea19 : Int32) (ea20 : Int32) (ea21 : Int32) (ea22 : Int32) (ea23 : Int32) (ea24 : Int32) (ea25 : Int32) (ea26 : Int32) (ea27 : Int32) (ea28 : Int32) (ea29 : Int32) (ea30 : Int32) (ea31 : Int32) (h0 : Heap) (n0 : Nat) (Z0 : n0 ≤ h0.size) (F_values_a1 : Fld Z h0 a1 "com/example/kalchas/kalchas/IntList" "values" "[I" (.ref a2)) (V_a2 : Arv Z h0 a2 kc1 .int (32 : Int32) [(.int ea0), (.int ea1), (.int ea2), (.int ea3), (.int ea4), (.int ea5), (.int ea6), (.int ea7), (.int ea8), (.int ea9), (.int ea10), (.int ea11), (.int ea12), (.int ea13), (.int ea14), (.int ea15), (.int ea16), (.int ea17), (.int ea18), (.int ea19), (.int ea20), (.int ea21), (.int ea22), (.int ea23), (.int ea24), (.int ea25), (.int ea26), (.int ea27), (.int ea28), (.int ea29), (.int ea30), (.int ea31)] (.int (0 : Int32))) :
    MetFree l own_y6 (head1 (Jvm.Cond.code own_y6 prog_14_method_5_code 2 (some .int) :: ws) ({ frames := 0, cells := 0, slots := 0, locals := 0 } : Room)) (fun a U => a = #[(.ref a1), (.int (15 : Int32))] ∧ Z.Warmed39 U.vm ∧ U.heap = h0) (fun _ _ _ _ _ => True) (fun _ U o U' => ∃ v L, o = .returned v ∧ own_get32_15_Q a1 a2 kc1 ea0 ea1 ea2 ea3 ea4 ea5 ea6 ea7 ea8 ea9 ea10 ea11 ea12 ea13 ea14 ea15 ea16 ea17 ea18 ea19 ea20 ea21 ea22 ea23 ea24 ea25 ea26 ea27 ea28 ea29 ea30 ea31 h0 v U'.heap L ∧ FrameEnd U o U' L ({ frames := 0, cells := 0, slots := 0, locals := 0 } : Room).cells ({ frames := 0, cells := 0, slots := 0, locals := 0 } : Room).slots) := by
  refine MetFree.of_bodySF (plainFor_of_name own_pn_IntList) hisR ?_
  intro p e s m args below meth c s₁ Bd hml0 hP hK
  obtain ⟨rfl, hZ, hh⟩ := hP
  have hx := Bd.exec
  have hby := Bd.bytes
  have hml : c.maxLocals = 2 := hml0
  have hown : s.vm.findClass "com/example/kalchas/kalchas/IntList" = some m.cls := findClass_of_methodNamed Bd.named
  have hnm := (name_of_methodNamed Bd.named Bd.method).1
  have X0 : Stand p l e ({ frames := 0, cells := 0, slots := 0, locals := 0 } : Room) s m #[(.ref a1), (.int (15 : Int32))] below meth c s₁ [] 0 0 := Stand.of_body Bd
  have e0 : s₁.heap = h0 := by rw [← hh, Bd.state]; rfl
  show own_E p e below (own_K (own_get32_15_Q a1 a2 kc1 ea0 ea1 ea2 ea3 ea4 ea5 ea6 ea7 ea8 ea9 ea10 ea11 ea12 ea13 ea14 ea15 ea16 ea17 ea18 ea19 ea20 ea21 ea22 ea23 ea24 ea25 ea26 ea27 ea28 ea29 ea30 ea31 h0) s ({ frames := 0, cells := 0, slots := 0, locals := 0 } : Room).cells ({ frames := 0, cells := 0, slots := 0, locals := 0 } : Room).slots) s₁ (entryFrame m #[(.ref a1), (.int (15 : Int32))] 2)
  refine own_pre (own_get32_15_ef m a1 a2 kc1 ea0 ea1 ea2 ea3 ea4 ea5 ea6 ea7 ea8 ea9 ea10 ea11 ea12 ea13 ea14 ea15 ea16 ea17 ea18 ea19 ea20 ea21 ea22 ea23 ea24 ea25 ea26 ea27 ea28 ea29 ea30 ea31) ?_
  show own_E p e below _ s₁ (mkF m 0 #[rv a1, iv 15] [])
  refine own_st (fun t k => XS.aloadN X0.here hx rfl (hb hby own_d_prog_14_method_5_0) rfl rfl k) ?_
  show own_E p e below _ s₁ (mkF m 1 #[rv a1, iv 15] [.ref a1])
  obtain ⟨T1, X1, e1, st1⟩ := getF X0 hx hZ hown (host := "") (Or.inl (own_w hw 11 rfl)) Via.refl e0 F_values_a1 (g := (mkF m 1 #[rv a1, iv 15] [.ref a1])) rfl rfl (hb hby own_d_prog_14_method_5_1)
  refine own_st st1 ?_
  show own_E p e below _ T1 (mkF m 4 #[rv a1, iv 15] [.ref a2])
  refine own_st (fun t k => XS.iloadN X1.here hx rfl (hb hby own_d_prog_14_method_5_4) rfl k) ?_
  show own_E p e below _ T1 (mkF m 5 #[rv a1, iv 15] [.int 15, .ref a2])
  refine own_st (own_ald X1 hx hZ e1 V_a2 (j := (15 : Int32)) ⟨by decide, by decide⟩ (v := (.int ea15)) rfl (g := (mkF m 5 #[rv a1, iv 15] [.int 15, .ref a2])) rfl rfl (hb hby own_d_prog_14_method_5_5)) ?_
  show own_E p e below _ T1 (mkF m 6 #[rv a1, iv 15] [.int ea15])
  refine own_retI X1 hx Bd.notSynchronized Bd.returns (hb hby own_d_prog_14_method_5_6) (by decide) (by decide) ?_
  exact ⟨rfl, e1, rfl⟩
def own_get32_16_Q (a1 : Addr) (a2 : Addr) (kc1 : ClassId) (ea0 : Int32) (ea1 : Int32) (ea2 : Int32) (ea3 : Int32) (ea4 : Int32) (ea5 : Int32) (ea6 : Int32) (ea7 : Int32) (ea8 : Int32) (ea9 : Int32) (ea10 : Int32) (ea11 : Int32) (ea12 : Int32) (ea13 : Int32) (ea14 : Int32) (ea15 : Int32) (ea16 : Int32) (ea17 : Int32) (ea18 : Int32) (ea19 : Int32) (ea20 : Int32) (ea21 : Int32) (ea22 : Int32) (ea23 : Int32) (ea24 : Int32) (ea25 : Int32) (ea26 : Int32) (ea27 : Int32) (ea28 : Int32) (ea29 : Int32) (ea30 : Int32) (ea31 : Int32) (h0 : Heap) (v : Option Value) (h : Heap) (L : List Loc) : Prop := ((v = some (.int ea16))) ∧ h = h0 ∧ L = []
theorem own_get32_16_ef (m : MethodId) (a1 : Addr) (a2 : Addr) (kc1 : ClassId) (ea0 : Int32) (ea1 : Int32) (ea2 : Int32) (ea3 : Int32) (ea4 : Int32) (ea5 : Int32) (ea6 : Int32) (ea7 : Int32) (ea8 : Int32) (ea9 : Int32) (ea10 : Int32) (ea11 : Int32) (ea12 : Int32) (ea13 : Int32) (ea14 : Int32) (ea15 : Int32) (ea16 : Int32) (ea17 : Int32) (ea18 : Int32) (ea19 : Int32) (ea20 : Int32) (ea21 : Int32) (ea22 : Int32) (ea23 : Int32) (ea24 : Int32) (ea25 : Int32) (ea26 : Int32) (ea27 : Int32) (ea28 : Int32) (ea29 : Int32) (ea30 : Int32) (ea31 : Int32) : entryFrame m #[(.ref a1), (.int (16 : Int32))] 2 = mkF m 0 #[.val (.ref a1), .val (.int (16 : Int32))] [] := by first | (simp [entryFrame, mkF, argsToLocals, Value.category]; done) | rfl
set_option maxRecDepth 65536 in
set_option maxHeartbeats 40000000 in
theorem own_get32_16 (l : Launch) (Z : State) (a0 : Array Value) (hw : ∀ d ∈ tables_1, d.before a0 Z = true) (ws : List Jvm.Cond) (a1 : Addr) (a2 : Addr) (kc1 : ClassId) (ea0 : Int32) (ea1 : Int32) (ea2 : Int32) (ea3 : Int32) (ea4 : Int32) (ea5 : Int32) (ea6 : Int32) (ea7 : Int32) (ea8 : Int32) (ea9 : Int32) (ea10 : Int32) (ea11 : Int32) (ea12 : Int32) (ea13 : Int32) (ea14 : Int32) (ea15 : Int32) (ea16 : Int32) (ea17 : Int32) (ea18 : Int32) (ea19 : Int32) (ea20 : Int32) (ea21 : Int32) (ea22 : Int32) (ea23 : Int32) (ea24 : Int32) (ea25 : Int32) (ea26 : Int32) (ea27 : Int32) (ea28 : Int32) (ea29 : Int32) (ea30 : Int32) (ea31 : Int32) (h0 : Heap) (n0 : Nat) (Z0 : n0 ≤ h0.size) (F_values_a1 : Fld Z h0 a1 "com/example/kalchas/kalchas/IntList" "values" "[I" (.ref a2)) (V_a2 : Arv Z h0 a2 kc1 .int (32 : Int32) [(.int ea0), (.int ea1), (.int ea2), (.int ea3), (.int ea4), (.int ea5), (.int ea6), (.int ea7), (.int ea8), (.int ea9), (.int ea10), (.int ea11), (.int ea12), (.int ea13), (.int ea14), (.int ea15), (.int ea16), (.int ea17), (.int ea18), (.int ea19), (.int ea20), (.int ea21), (.int ea22), (.int ea23), (.int ea24), (.int ea25), (.int ea26), (.int ea27), (.int ea28), (.int ea29), (.int ea30), (.int ea31)] (.int (0 : Int32))) :
    MetFree l own_y6 (head1 (Jvm.Cond.code own_y6 prog_14_method_5_code 2 (some .int) :: ws) ({ frames := 0, cells := 0, slots := 0, locals := 0 } : Room)) (fun a U => a = #[(.ref a1), (.int (16 : Int32))] ∧ Z.Warmed39 U.vm ∧ U.heap = h0) (fun _ _ _ _ _ => True) (fun _ U o U' => ∃ v L, o = .returned v ∧ own_get32_16_Q a1 a2 kc1 ea0 ea1 ea2 ea3 ea4 ea5 ea6 ea7 ea8 ea9 ea10 ea11 ea12 ea13 ea14 ea15 ea16 ea17 ea18 ea19 ea20 ea21 ea22 ea23 ea24 ea25 ea26 ea27 ea28 ea29 ea30 ea31 h0 v U'.heap L ∧ FrameEnd U o U' L ({ frames := 0, cells := 0, slots := 0, locals := 0 } : Room).cells ({ frames := 0, cells := 0, slots := 0, locals := 0 } : Room).slots) := by
  refine MetFree.of_bodySF (plainFor_of_name own_pn_IntList) hisR ?_
  intro p e s m args below meth c s₁ Bd hml0 hP hK
  obtain ⟨rfl, hZ, hh⟩ := hP
  have hx := Bd.exec
  have hby := Bd.bytes
  have hml : c.maxLocals = 2 := hml0
  have hown : s.vm.findClass "com/example/kalchas/kalchas/IntList" = some m.cls := findClass_of_methodNamed Bd.named
  have hnm := (name_of_methodNamed Bd.named Bd.method).1
  have X0 : Stand p l e ({ frames := 0, cells := 0, slots := 0, locals := 0 } : Room) s m #[(.ref a1), (.int (16 : Int32))] below meth c s₁ [] 0 0 := Stand.of_body Bd
  have e0 : s₁.heap = h0 := by rw [← hh, Bd.state]; rfl
  show own_E p e below (own_K (own_get32_16_Q a1 a2 kc1 ea0 ea1 ea2 ea3 ea4 ea5 ea6 ea7 ea8 ea9 ea10 ea11 ea12 ea13 ea14 ea15 ea16 ea17 ea18 ea19 ea20 ea21 ea22 ea23 ea24 ea25 ea26 ea27 ea28 ea29 ea30 ea31 h0) s ({ frames := 0, cells := 0, slots := 0, locals := 0 } : Room).cells ({ frames := 0, cells := 0, slots := 0, locals := 0 } : Room).slots) s₁ (entryFrame m #[(.ref a1), (.int (16 : Int32))] 2)
  refine own_pre (own_get32_16_ef m a1 a2 kc1 ea0 ea1 ea2 ea3 ea4 ea5 ea6 ea7 ea8 ea9 ea10 ea11 ea12 ea13 ea14 ea15 ea16 ea17 ea18 ea19 ea20 ea21 ea22 ea23 ea24 ea25 ea26 ea27 ea28 ea29 ea30 ea31) ?_
  show own_E p e below _ s₁ (mkF m 0 #[rv a1, iv 16] [])
  refine own_st (fun t k => XS.aloadN X0.here hx rfl (hb hby own_d_prog_14_method_5_0) rfl rfl k) ?_
  show own_E p e below _ s₁ (mkF m 1 #[rv a1, iv 16] [.ref a1])
  obtain ⟨T1, X1, e1, st1⟩ := getF X0 hx hZ hown (host := "") (Or.inl (own_w hw 11 rfl)) Via.refl e0 F_values_a1 (g := (mkF m 1 #[rv a1, iv 16] [.ref a1])) rfl rfl (hb hby own_d_prog_14_method_5_1)
  refine own_st st1 ?_
  show own_E p e below _ T1 (mkF m 4 #[rv a1, iv 16] [.ref a2])
  refine own_st (fun t k => XS.iloadN X1.here hx rfl (hb hby own_d_prog_14_method_5_4) rfl k) ?_
  show own_E p e below _ T1 (mkF m 5 #[rv a1, iv 16] [.int 16, .ref a2])
  refine own_st (own_ald X1 hx hZ e1 V_a2 (j := (16 : Int32)) ⟨by decide, by decide⟩ (v := (.int ea16)) rfl (g := (mkF m 5 #[rv a1, iv 16] [.int 16, .ref a2])) rfl rfl (hb hby own_d_prog_14_method_5_5)) ?_
  show own_E p e below _ T1 (mkF m 6 #[rv a1, iv 16] [.int ea16])
  refine own_retI X1 hx Bd.notSynchronized Bd.returns (hb hby own_d_prog_14_method_5_6) (by decide) (by decide) ?_
  exact ⟨rfl, e1, rfl⟩
def own_get32_17_Q (a1 : Addr) (a2 : Addr) (kc1 : ClassId) (ea0 : Int32) (ea1 : Int32) (ea2 : Int32) (ea3 : Int32) (ea4 : Int32) (ea5 : Int32) (ea6 : Int32) (ea7 : Int32) (ea8 : Int32) (ea9 : Int32) (ea10 : Int32) (ea11 : Int32) (ea12 : Int32) (ea13 : Int32) (ea14 : Int32) (ea15 : Int32) (ea16 : Int32) (ea17 : Int32) (ea18 : Int32) (ea19 : Int32) (ea20 : Int32) (ea21 : Int32) (ea22 : Int32) (ea23 : Int32) (ea24 : Int32) (ea25 : Int32) (ea26 : Int32) (ea27 : Int32) (ea28 : Int32) (ea29 : Int32) (ea30 : Int32) (ea31 : Int32) (h0 : Heap) (v : Option Value) (h : Heap) (L : List Loc) : Prop := ((v = some (.int ea17))) ∧ h = h0 ∧ L = []
theorem own_get32_17_ef (m : MethodId) (a1 : Addr) (a2 : Addr) (kc1 : ClassId) (ea0 : Int32) (ea1 : Int32) (ea2 : Int32) (ea3 : Int32) (ea4 : Int32) (ea5 : Int32) (ea6 : Int32) (ea7 : Int32) (ea8 : Int32) (ea9 : Int32) (ea10 : Int32) (ea11 : Int32) (ea12 : Int32) (ea13 : Int32) (ea14 : Int32) (ea15 : Int32) (ea16 : Int32) (ea17 : Int32) (ea18 : Int32) (ea19 : Int32) (ea20 : Int32) (ea21 : Int32) (ea22 : Int32) (ea23 : Int32) (ea24 : Int32) (ea25 : Int32) (ea26 : Int32) (ea27 : Int32) (ea28 : Int32) (ea29 : Int32) (ea30 : Int32) (ea31 : Int32) : entryFrame m #[(.ref a1), (.int (17 : Int32))] 2 = mkF m 0 #[.val (.ref a1), .val (.int (17 : Int32))] [] := by first | (simp [entryFrame, mkF, argsToLocals, Value.category]; done) | rfl
set_option maxRecDepth 65536 in
set_option maxHeartbeats 40000000 in
theorem own_get32_17 (l : Launch) (Z : State) (a0 : Array Value) (hw : ∀ d ∈ tables_1, d.before a0 Z = true) (ws : List Jvm.Cond) (a1 : Addr) (a2 : Addr) (kc1 : ClassId) (ea0 : Int32) (ea1 : Int32) (ea2 : Int32) (ea3 : Int32) (ea4 : Int32) (ea5 : Int32) (ea6 : Int32) (ea7 : Int32) (ea8 : Int32) (ea9 : Int32) (ea10 : Int32) (ea11 : Int32) (ea12 : Int32) (ea13 : Int32) (ea14 : Int32) (ea15 : Int32) (ea16 : Int32) (ea17 : Int32) (ea18 : Int32) (ea19 : Int32) (ea20 : Int32) (ea21 : Int32) (ea22 : Int32) (ea23 : Int32) (ea24 : Int32) (ea25 : Int32) (ea26 : Int32) (ea27 : Int32) (ea28 : Int32) (ea29 : Int32) (ea30 : Int32) (ea31 : Int32) (h0 : Heap) (n0 : Nat) (Z0 : n0 ≤ h0.size) (F_values_a1 : Fld Z h0 a1 "com/example/kalchas/kalchas/IntList" "values" "[I" (.ref a2)) (V_a2 : Arv Z h0 a2 kc1 .int (32 : Int32) [(.int ea0), (.int ea1), (.int ea2), (.int ea3), (.int ea4), (.int ea5), (.int ea6), (.int ea7), (.int ea8), (.int ea9), (.int ea10), (.int ea11), (.int ea12), (.int ea13), (.int ea14), (.int ea15), (.int ea16), (.int ea17), (.int ea18), (.int ea19), (.int ea20), (.int ea21), (.int ea22), (.int ea23), (.int ea24), (.int ea25), (.int ea26), (.int ea27), (.int ea28), (.int ea29), (.int ea30), (.int ea31)] (.int (0 : Int32))) :
    MetFree l own_y6 (head1 (Jvm.Cond.code own_y6 prog_14_method_5_code 2 (some .int) :: ws) ({ frames := 0, cells := 0, slots := 0, locals := 0 } : Room)) (fun a U => a = #[(.ref a1), (.int (17 : Int32))] ∧ Z.Warmed39 U.vm ∧ U.heap = h0) (fun _ _ _ _ _ => True) (fun _ U o U' => ∃ v L, o = .returned v ∧ own_get32_17_Q a1 a2 kc1 ea0 ea1 ea2 ea3 ea4 ea5 ea6 ea7 ea8 ea9 ea10 ea11 ea12 ea13 ea14 ea15 ea16 ea17 ea18 ea19 ea20 ea21 ea22 ea23 ea24 ea25 ea26 ea27 ea28 ea29 ea30 ea31 h0 v U'.heap L ∧ FrameEnd U o U' L ({ frames := 0, cells := 0, slots := 0, locals := 0 } : Room).cells ({ frames := 0, cells := 0, slots := 0, locals := 0 } : Room).slots) := by
  refine MetFree.of_bodySF (plainFor_of_name own_pn_IntList) hisR ?_
  intro p e s m args below meth c s₁ Bd hml0 hP hK
  obtain ⟨rfl, hZ, hh⟩ := hP
  have hx := Bd.exec
  have hby := Bd.bytes
  have hml : c.maxLocals = 2 := hml0
  have hown : s.vm.findClass "com/example/kalchas/kalchas/IntList" = some m.cls := findClass_of_methodNamed Bd.named
  have hnm := (name_of_methodNamed Bd.named Bd.method).1
  have X0 : Stand p l e ({ frames := 0, cells := 0, slots := 0, locals := 0 } : Room) s m #[(.ref a1), (.int (17 : Int32))] below meth c s₁ [] 0 0 := Stand.of_body Bd
  have e0 : s₁.heap = h0 := by rw [← hh, Bd.state]; rfl
  show own_E p e below (own_K (own_get32_17_Q a1 a2 kc1 ea0 ea1 ea2 ea3 ea4 ea5 ea6 ea7 ea8 ea9 ea10 ea11 ea12 ea13 ea14 ea15 ea16 ea17 ea18 ea19 ea20 ea21 ea22 ea23 ea24 ea25 ea26 ea27 ea28 ea29 ea30 ea31 h0) s ({ frames := 0, cells := 0, slots := 0, locals := 0 } : Room).cells ({ frames := 0, cells := 0, slots := 0, locals := 0 } : Room).slots) s₁ (entryFrame m #[(.ref a1), (.int (17 : Int32))] 2)
  refine own_pre (own_get32_17_ef m a1 a2 kc1 ea0 ea1 ea2 ea3 ea4 ea5 ea6 ea7 ea8 ea9 ea10 ea11 ea12 ea13 ea14 ea15 ea16 ea17 ea18 ea19 ea20 ea21 ea22 ea23 ea24 ea25 ea26 ea27 ea28 ea29 ea30 ea31) ?_
  show own_E p e below _ s₁ (mkF m 0 #[rv a1, iv 17] [])
  refine own_st (fun t k => XS.aloadN X0.here hx rfl (hb hby own_d_prog_14_method_5_0) rfl rfl k) ?_
  show own_E p e below _ s₁ (mkF m 1 #[rv a1, iv 17] [.ref a1])
  obtain ⟨T1, X1, e1, st1⟩ := getF X0 hx hZ hown (host := "") (Or.inl (own_w hw 11 rfl)) Via.refl e0 F_values_a1 (g := (mkF m 1 #[rv a1, iv 17] [.ref a1])) rfl rfl (hb hby own_d_prog_14_method_5_1)
  refine own_st st1 ?_
  show own_E p e below _ T1 (mkF m 4 #[rv a1, iv 17] [.ref a2])
  refine own_st (fun t k => XS.iloadN X1.here hx rfl (hb hby own_d_prog_14_method_5_4) rfl k) ?_
  show own_E p e below _ T1 (mkF m 5 #[rv a1, iv 17] [.int 17, .ref a2])
  refine own_st (own_ald X1 hx hZ e1 V_a2 (j := (17 : Int32)) ⟨by decide, by decide⟩ (v := (.int ea17)) rfl (g := (mkF m 5 #[rv a1, iv 17] [.int 17, .ref a2])) rfl rfl (hb hby own_d_prog_14_method_5_5)) ?_
  show own_E p e below _ T1 (mkF m 6 #[rv a1, iv 17] [.int ea17])
  refine own_retI X1 hx Bd.notSynchronized Bd.returns (hb hby own_d_prog_14_method_5_6) (by decide) (by decide) ?_
  exact ⟨rfl, e1, rfl⟩
theorem own_d_prog_14_method_6_0 : decode prog_14_method_6_code 0 = .ok (.aload_n 0, 1) := by decide +kernel
theorem own_d_prog_14_method_6_1 : decode prog_14_method_6_code 1 = .ok (.getfield 13, 3) := by decide +kernel
theorem own_d_prog_14_method_6_4 : decode prog_14_method_6_code 4 = .ok (.ireturn, 1) := by decide +kernel
def own_size_Q (a1 : Addr) (p1 : Int32) (h0 : Heap) (v : Option Value) (h : Heap) (L : List Loc) : Prop := ((v = some (.int p1))) ∧ h = h0 ∧ L = []
abbrev own_y7 : MethodName := ⟨"com/example/kalchas/kalchas/IntList", "size", "()I"⟩
theorem own_size_ef (m : MethodId) (a1 : Addr) (p1 : Int32) : entryFrame m #[(.ref a1)] 1 = mkF m 0 #[.val (.ref a1)] [] := by first | (simp [entryFrame, mkF, argsToLocals, Value.category]; done) | rfl
set_option maxRecDepth 65536 in
set_option maxHeartbeats 40000000 in
theorem own_size (l : Launch) (Z : State) (a0 : Array Value) (hw : ∀ d ∈ tables_1, d.before a0 Z = true) (ws : List Jvm.Cond) (a1 : Addr) (p1 : Int32) (h0 : Heap) (n0 : Nat) (Z0 : n0 ≤ h0.size) (F_size_a1 : Fld Z h0 a1 "com/example/kalchas/kalchas/IntList" "size" "I" (.int p1)) :
    MetFree l own_y7 (head1 (Jvm.Cond.code own_y7 prog_14_method_6_code 1 (some .int) :: ws) ({ frames := 0, cells := 0, slots := 0, locals := 0 } : Room)) (fun a U => a = #[(.ref a1)] ∧ Z.Warmed39 U.vm ∧ U.heap = h0) (fun _ _ _ _ _ => True) (fun _ U o U' => ∃ v L, o = .returned v ∧ own_size_Q a1 p1 h0 v U'.heap L ∧ FrameEnd U o U' L ({ frames := 0, cells := 0, slots := 0, locals := 0 } : Room).cells ({ frames := 0, cells := 0, slots := 0, locals := 0 } : Room).slots) := by
  refine MetFree.of_bodySF (plainFor_of_name own_pn_IntList) hisR ?_
  intro p e s m args below meth c s₁ Bd hml0 hP hK
  obtain ⟨rfl, hZ, hh⟩ := hP
  have hx := Bd.exec
  have hby := Bd.bytes
  have hml : c.maxLocals = 1 := hml0
  have hown : s.vm.findClass "com/example/kalchas/kalchas/IntList" = some m.cls := findClass_of_methodNamed Bd.named
  have hnm := (name_of_methodNamed Bd.named Bd.method).1
  have X0 : Stand p l e ({ frames := 0, cells := 0, slots := 0, locals := 0 } : Room) s m #[(.ref a1)] below meth c s₁ [] 0 0 := Stand.of_body Bd
  have e0 : s₁.heap = h0 := by rw [← hh, Bd.state]; rfl
  show own_E p e below (own_K (own_size_Q a1 p1 h0) s ({ frames := 0, cells := 0, slots := 0, locals := 0 } : Room).cells ({ frames := 0, cells := 0, slots := 0, locals := 0 } : Room).slots) s₁ (entryFrame m #[(.ref a1)] 1)
  refine own_pre (own_size_ef m a1 p1) ?_
  show own_E p e below _ s₁ (mkF m 0 #[rv a1] [])
  refine own_st (fun t k => XS.aloadN X0.here hx rfl (hb hby own_d_prog_14_method_6_0) rfl rfl k) ?_
  show own_E p e below _ s₁ (mkF m 1 #[rv a1] [.ref a1])
  obtain ⟨T1, X1, e1, st1⟩ := getF X0 hx hZ hown (host := "") (Or.inl (own_w hw 18 rfl)) Via.refl e0 F_size_a1 (g := (mkF m 1 #[rv a1] [.ref a1])) rfl rfl (hb hby own_d_prog_14_method_6_1)
  refine own_st st1 ?_
  show own_E p e below _ T1 (mkF m 4 #[rv a1] [.int p1])
  refine own_retI X1 hx Bd.notSynchronized Bd.returns (hb hby own_d_prog_14_method_6_4) (by decide) (by decide) ?_
  exact ⟨rfl, e1, rfl⟩
theorem own_mod17 (x : Int32) : ((x &&& (2147483647 : Int32)) % (17 : Int32)) = (0 : Int32) ∨ ((x &&& (2147483647 : Int32)) % (17 : Int32)) = (1 : Int32) ∨ ((x &&& (2147483647 : Int32)) % (17 : Int32)) = (2 : Int32) ∨ ((x &&& (2147483647 : Int32)) % (17 : Int32)) = (3 : Int32) ∨ ((x &&& (2147483647 : Int32)) % (17 : Int32)) = (4 : Int32) ∨ ((x &&& (2147483647 : Int32)) % (17 : Int32)) = (5 : Int32) ∨ ((x &&& (2147483647 : Int32)) % (17 : Int32)) = (6 : Int32) ∨ ((x &&& (2147483647 : Int32)) % (17 : Int32)) = (7 : Int32) ∨ ((x &&& (2147483647 : Int32)) % (17 : Int32)) = (8 : Int32) ∨ ((x &&& (2147483647 : Int32)) % (17 : Int32)) = (9 : Int32) ∨ ((x &&& (2147483647 : Int32)) % (17 : Int32)) = (10 : Int32) ∨ ((x &&& (2147483647 : Int32)) % (17 : Int32)) = (11 : Int32) ∨ ((x &&& (2147483647 : Int32)) % (17 : Int32)) = (12 : Int32) ∨ ((x &&& (2147483647 : Int32)) % (17 : Int32)) = (13 : Int32) ∨ ((x &&& (2147483647 : Int32)) % (17 : Int32)) = (14 : Int32) ∨ ((x &&& (2147483647 : Int32)) % (17 : Int32)) = (15 : Int32) ∨ ((x &&& (2147483647 : Int32)) % (17 : Int32)) = (16 : Int32) := by
  have h1 : (x &&& (2147483647 : Int32)).toInt = x.toInt % 2147483648 := c_mask x 2147483647 31 (by decide) (by decide)
  have h2 := c_irem (x &&& (2147483647 : Int32)) (17 : Int32) 17 rfl
  simp only [← Int32.toInt_inj]
  have k0 : (0 : Int32).toInt = 0 := rfl
  have k1 : (1 : Int32).toInt = 1 := rfl
  have k2 : (2 : Int32).toInt = 2 := rfl
  have k3 : (3 : Int32).toInt = 3 := rfl
  have k4 : (4 : Int32).toInt = 4 := rfl
  have k5 : (5 : Int32).toInt = 5 := rfl
  have k6 : (6 : Int32).toInt = 6 := rfl
  have k7 : (7 : Int32).toInt = 7 := rfl
  have k8 : (8 : Int32).toInt = 8 := rfl
  have k9 : (9 : Int32).toInt = 9 := rfl
  have k10 : (10 : Int32).toInt = 10 := rfl
  have k11 : (11 : Int32).toInt = 11 := rfl
  have k12 : (12 : Int32).toInt = 12 := rfl
  have k13 : (13 : Int32).toInt = 13 := rfl
  have k14 : (14 : Int32).toInt = 14 := rfl
  have k15 : (15 : Int32).toInt = 15 := rfl
  have k16 : (16 : Int32).toInt = 16 := rfl
  omega
theorem own_pd_1 : parseMethodDescriptor "()V" = some ⟨[], none⟩ := by decide +kernel
theorem own_pd_3 : parseMethodDescriptor "(I)V" = some ⟨[.int], none⟩ := by decide +kernel
theorem own_pd_0 : parseMethodDescriptor "()I" = some ⟨[], some .int⟩ := by decide +kernel
theorem own_pd_2 : parseMethodDescriptor "(I)I" = some ⟨[.int], some .int⟩ := by decide +kernel
theorem own_pd_5 : parseMethodDescriptor "(II)V" = some ⟨[.int, .int], none⟩ := by decide +kernel
def own_law_Q (n0 : Nat) (v : Option Value) (h : Heap) (L : List Loc) : Prop := v = some (.int 1) ∧ Fr n0 L
theorem own_pn_IntListAddPinLaw : plainName "com/example/kalchas/kalchas/IntListAddPinLaw" = true := by first | (simp [plainName, overriddenIn]; done) | decide +kernel
theorem own_law_ef (m : MethodId) (p1 : Int32) (p2 : Int32) (p3 : Int32) (p4 : Int32) : entryFrame m #[(.int p1), (.int p2), (.int p3), (.int p4)] maxLocals = mkF m 0 #[.val (.int p1), .val (.int p2), .val (.int p3), .val (.int p4), .unset, .unset, .unset] [] := by first | (simp [entryFrame, mkF, argsToLocals, Value.category, maxLocals]; done) | rfl
set_option maxRecDepth 65536 in
set_option maxHeartbeats 40000000 in
theorem own_law (l : Launch) (Z : State) (a0 : Array Value) (hw : ∀ d ∈ tables_1, d.before a0 Z = true) (ws : List Jvm.Cond) (p1 : Int32) (p2 : Int32) (p3 : Int32) (p4 : Int32) (h0 : Heap) (n0 : Nat) (Z0 : n0 ≤ h0.size)  :
    MetFree l x (head1 (Jvm.Cond.code x code maxLocals ret :: ws) room_1) (fun a U => a = #[(.int p1), (.int p2), (.int p3), (.int p4)] ∧ Z.Warmed39 U.vm ∧ U.heap = h0) (fun _ _ _ _ _ => True) (fun _ U o U' => ∃ v L, o = .returned v ∧ own_law_Q n0 v U'.heap L ∧ FrameEnd U o U' L room_1.cells room_1.slots) := by
  refine MetFree.of_bodySF (plainFor_of_name own_pn_IntListAddPinLaw) hisR ?_
  intro p e s m args below meth c s₁ Bd hml0 hP hK
  obtain ⟨rfl, hZ, hh⟩ := hP
  have hx := Bd.exec
  have hby := Bd.bytes
  have hml : c.maxLocals = 7 := hml0
  have hown : s.vm.findClass "com/example/kalchas/kalchas/IntListAddPinLaw" = some m.cls := findClass_of_methodNamed Bd.named
  have hnm := (name_of_methodNamed Bd.named Bd.method).1
  have X0 : Stand p l e room_1 s m #[(.int p1), (.int p2), (.int p3), (.int p4)] below meth c s₁ [] 0 0 := Stand.of_body Bd
  have e0 : s₁.heap = h0 := by rw [← hh, Bd.state]; rfl
  show own_E p e below (own_K (own_law_Q n0) s room_1.cells room_1.slots) s₁ (entryFrame m #[(.int p1), (.int p2), (.int p3), (.int p4)] maxLocals)
  refine own_pre (own_law_ef m p1 p2 p3 p4) ?_
  show own_E p e below _ s₁ (mkF m 0 #[iv p1, iv p2, iv p3, iv p4, .unset, .unset, .unset] [])
  refine own_st (fun t k => XS.iloadN X0.here hx rfl (hb hby at_0) rfl k) ?_
  show own_E p e below _ s₁ (mkF m 1 #[iv p1, iv p2, iv p3, iv p4, .unset, .unset, .unset] [.int p4])
  refine own_st (X0.ldcInt hx hown (mvT hZ (own_w hw 0 rfl)) (g := (mkF m 1 #[iv p1, iv p2, iv p3, iv p4, .unset, .unset, .unset] [.int p4])) rfl (hb hby at_1)) ?_
  show own_E p e below _ s₁ (mkF m 3 #[iv p1, iv p2, iv p3, iv p4, .unset, .unset, .unset] [.int 2147483647, .int p4])
  refine own_st (fun t k => XS.iand X0.here hx rfl (hb hby at_3) rfl k) ?_
  show own_E p e below _ s₁ (mkF m 4 #[iv p1, iv p2, iv p3, iv p4, .unset, .unset, .unset] [.int (p4 &&& (2147483647 : Int32))])
  refine own_st (fun t k => XS.bipush X0.here hx rfl (hb hby at_4) k) ?_
  show own_E p e below _ s₁ (mkF m 6 #[iv p1, iv p2, iv p3, iv p4, .unset, .unset, .unset] [.int 17, .int (p4 &&& (2147483647 : Int32))])
  refine own_st (fun t k => iremM X0 hx rfl (hb hby at_6) rfl (by decide) k) ?_
  show own_E p e below _ s₁ (mkF m 7 #[iv p1, iv p2, iv p3, iv p4, .unset, .unset, .unset] [.int ((p4 &&& (2147483647 : Int32)) % (17 : Int32))])
  refine own_st (fun t k => XS.istore X0.here hx rfl (hb hby at_7) rfl (l' := #[iv p1, iv p2, iv p3, iv p4, iv ((p4 &&& (2147483647 : Int32)) % (17 : Int32)), .unset, .unset]) rfl k) ?_
  show own_E p e below _ s₁ (mkF m 9 #[iv p1, iv p2, iv p3, iv p4, iv ((p4 &&& (2147483647 : Int32)) % (17 : Int32)), .unset, .unset] [])
  rcases own_mod17 p4 with hs1 | hs1 | hs1 | hs1 | hs1 | hs1 | hs1 | hs1 | hs1 | hs1 | hs1 | hs1 | hs1 | hs1 | hs1 | hs1 | hs1
  · rw [hs1]
    show own_E p e below _ s₁ (mkF m 9 #[iv p1, iv p2, iv p3, iv p4, iv 0, .unset, .unset] [])
    obtain ⟨T2, h2, X2, e2, E2, A2, D2, -, st2⟩ := newO X0 hx hZ hown (own_w hw 1 rfl) (own_w hw 2 rfl) (own_w hw 3 rfl) e0 (g := (mkF m 9 #[iv p1, iv p2, iv p3, iv p4, iv 0, .unset, .unset] [])) rfl (hb hby at_9) (by decide) (by decide)
    obtain ⟨b2, g2⟩ : ∃ z, z = h0.size := ⟨_, rfl⟩
    rw [← g2] at A2 D2 st2
    have g_b2 : n0 ≤ b2 := Nat.le_trans Z0 (Nat.le_of_eq g2.symm)
    have Z3 := Nat.le_trans Z0 E2.1
    have F_values_b2 : Fld Z h2 b2 "com/example/kalchas/kalchas/IntList" "values" "[I" .null := D2 (Or.inl (own_w hw 12 rfl)) (ty := (.array .int)) (by decide)
    have F_size_b2 : Fld Z h2 b2 "com/example/kalchas/kalchas/IntList" "size" "I" (.int (0 : Int32)) := D2 (Or.inl (own_w hw 19 rfl)) (ty := .int) (by decide)
    refine own_st st2 ?_
    show own_E p e below _ T2 (mkF m 12 #[iv p1, iv p2, iv p3, iv p4, iv 0, .unset, .unset] [.ref b2])
    refine own_st (fun t k => XS.dup X2.here hx rfl (hb hby at_12) rfl rfl k) ?_
    show own_E p e below _ T2 (mkF m 13 #[iv p1, iv p2, iv p3, iv p4, iv 0, .unset, .unset] [.ref b2, .ref b2])
    obtain ⟨_, _, ⟨T4, L4, k4, n4⟩, -, X4, ⟨Lc4, hQ4, l4, y4, z4⟩, st4⟩ := X2.specialBack hx (y := own_y2) rfl hown (mvT hZ (own_w hw 4 rfl)) (mvT hZ (own_w hw 5 rfl)) (mvT hZ (own_w hw 6 rfl)) (by decide) (backOf (W := 1) (own_init l Z a0 hw [] b2 h2 n0 Z3 A2 F_values_b2 F_size_b2 g_b2) hZ (own_w hw 6 rfl) (own_w hw 3 rfl) (by decide) (by decide)) (g := (mkF m 13 #[iv p1, iv p2, iv p3, iv p4, iv 0, .unset, .unset] [.ref b2, .ref b2])) rfl (by rw [hml]; rfl) (Steps.refl _) (a := b2) (argsL := []) (rest := [(.ref b2)]) (lenOf own_pd_1 rfl) rfl (by show 2 * 0 + _ ≤ _; exact Nat.le_of_eq rfl) (hb hby at_13) (fun _ _ => ⟨rfl, e2, (by decide : 1 + 1 ≤ _), (by decide : 2 + 16 ≤ _)⟩)
    dsimp only [Pt.U, Pt.locs, Pt.cells, Pt.slots] at X4 l4 y4 z4 st4 hQ4
    subst l4 y4 z4
    obtain ⟨b4_o0, k4_o1, rfl, Nq4, Kq4, sz4_0, P4_0, P4_1, P4_2, P4_3⟩ := hQ4
    have N4 := Fr.app (Fr.nil n0) Nq4
    have ne_b2_b4_o0 : b2 ≠ b4_o0 := Nat.ne_of_lt (Nat.lt_of_lt_of_le A2.lt sz4_0)
    have g_b4_o0 : n0 ≤ b4_o0 := Nat.le_trans Z3 sz4_0
    have e4 : T4.heap = T4.heap := rfl
    have Z5 := Nat.le_trans Z3 Kq4.1
    refine own_tr st4 ?_
    show own_E p e below _ T4 (mkF m 16 #[iv p1, iv p2, iv p3, iv p4, iv 0, .unset, .unset] [.ref b2])
    refine own_st (fun t k => XS.astore X4.here hx rfl (hb hby at_16) rfl rfl (l' := #[iv p1, iv p2, iv p3, iv p4, iv 0, rv b2, .unset]) rfl k) ?_
    show own_E p e below _ T4 (mkF m 18 #[iv p1, iv p2, iv p3, iv p4, iv 0, rv b2, .unset] [])
    refine own_st (fun t k => XS.aload X4.here hx rfl (hb hby at_18) rfl rfl k) ?_
    show own_E p e below _ T4 (mkF m 20 #[iv p1, iv p2, iv p3, iv p4, iv 0, rv b2, .unset] [.ref b2])
    refine own_st (fun t k => XS.iload X4.here hx rfl (hb hby at_20) rfl k) ?_
    show own_E p e below _ T4 (mkF m 22 #[iv p1, iv p2, iv p3, iv p4, iv 0, rv b2, .unset] [.int 0, .ref b2])
    obtain ⟨cq6, kq6, q6a, q6b, q6c⟩ := isOf hZ e4 P4_0
    obtain ⟨_, _, ⟨T6, L6, k6, n6⟩, -, X6, ⟨Lc6, hQ6, l6, y6, z6⟩, st6⟩ := X4.virtualBack hx (y := own_y3) (z := own_y3) hown (mvT hZ (own_w hw 13 rfl)) (mvT hZ (own_w hw 14 rfl)) (notFace_of_selects (args := #[]) (mvT hZ (own_w hw 16 rfl))) (mvT hZ (own_w hw 16 rfl)) (mvT hZ (own_w hw 15 rfl)) (by decide) (backOf (W := 0) (own_trunc l Z a0 hw [] b2 b4_o0 (0 : Int32) (0 : Int32) T4.heap n0 Z5 P4_0 P4_1 P4_2 g_b2) hZ (own_w hw 17 rfl) (own_w hw 3 rfl) (by decide) (by decide)) q6a q6c (g := (mkF m 22 #[iv p1, iv p2, iv p3, iv p4, iv 0, rv b2, .unset] [.int 0, .ref b2])) rfl (by rw [hml]; rfl) (Steps.refl _) (argsL := [(.int (0 : Int32))]) (rest := []) (lenOf own_pd_3 rfl) rfl (by show 2 * 0 + _ ≤ _; exact Nat.le_of_eq rfl) (hb hby at_22) (fun _ _ => ⟨rfl, e4, (by decide : 2 + 0 ≤ _), (by decide : 18 + 0 ≤ _)⟩)
    dsimp only [Pt.U, Pt.locs, Pt.cells, Pt.slots] at X6 l6 y6 z6 st6 hQ6
    subst l6 y6 z6
    obtain ⟨rfl, Nq6, Kq6, P6_0, P6_1, P6_2⟩ := hQ6
    have N6 := Fr.app N4 Nq6
    have e6 : T6.heap = T6.heap := rfl
    have Z7 := Nat.le_trans Z5 Kq6.1
    refine own_tr st6 ?_
    show own_E p e below _ T6 (mkF m 25 #[iv p1, iv p2, iv p3, iv p4, iv 0, rv b2, .unset] [])
    refine own_st (fun t k => XS.iload X6.here hx rfl (hb hby at_25) rfl k) ?_
    show own_E p e below _ T6 (mkF m 27 #[iv p1, iv p2, iv p3, iv p4, iv 0, rv b2, .unset] [.int 0])
    refine own_st (fun t k => XS.ifYes X6.here hx rfl (pc0 := 27) (pc' := 40) rfl (hb hby at_27) rfl (by decide) (by decide) (by decide) k) ?_
    show own_E p e below _ T6 (mkF m 40 #[iv p1, iv p2, iv p3, iv p4, iv 0, rv b2, .unset] [])
    refine own_st (fun t k => XS.aload X6.here hx rfl (hb hby at_40) rfl rfl k) ?_
    show own_E p e below _ T6 (mkF m 42 #[iv p1, iv p2, iv p3, iv p4, iv 0, rv b2, .unset] [.ref b2])
    refine own_st (fun t k => XS.iloadN X6.here hx rfl (hb hby at_42) rfl k) ?_
    show own_E p e below _ T6 (mkF m 43 #[iv p1, iv p2, iv p3, iv p4, iv 0, rv b2, .unset] [.int p1, .ref b2])
    have B8 := (P4_3.keep Kq6 (ninS (Ne.symm ne_b2_b4_o0) nin0))
    obtain ⟨cq9, kq9, q9a, q9b, q9c⟩ := isOf hZ e6 P6_0
    obtain ⟨_, _, ⟨T9, L9, k9, n9⟩, -, X9, ⟨Lc9, hQ9, l9, y9, z9⟩, st9⟩ := X6.virtualBack hx (y := own_y5) (z := own_y5) hown (mvT hZ (own_w hw 25 rfl)) (mvT hZ (own_w hw 26 rfl)) (notFace_of_selects (args := #[]) (mvT hZ (own_w hw 28 rfl))) (mvT hZ (own_w hw 28 rfl)) (mvT hZ (own_w hw 27 rfl)) (by decide) (backOf (W := 0) (own_add0 l Z a0 hw [] b2 b4_o0 k4_o1 p1 (0 : Int32) (0 : Int32) (0 : Int32) (0 : Int32) (0 : Int32) (0 : Int32) (0 : Int32) (0 : Int32) (0 : Int32) (0 : Int32) (0 : Int32) (0 : Int32) (0 : Int32) (0 : Int32) (0 : Int32) (0 : Int32) T6.heap n0 Z7 P6_0 P6_1 P6_2 B8 ne_b2_b4_o0 g_b2 g_b4_o0) hZ (own_w hw 29 rfl) (own_w hw 3 rfl) (by decide) (by decide)) q9a q9c (g := (mkF m 43 #[iv p1, iv p2, iv p3, iv p4, iv 0, rv b2, .unset] [.int p1, .ref b2])) rfl (by rw [hml]; rfl) (Steps.refl _) (argsL := [(.int p1)]) (rest := []) (lenOf own_pd_3 rfl) rfl (by show 2 * 0 + _ ≤ _; exact Nat.le_of_eq rfl) (hb hby at_43) (fun _ _ => ⟨rfl, e6, (by decide : 2 + 0 ≤ _), (by decide : 18 + 0 ≤ _)⟩)
    dsimp only [Pt.U, Pt.locs, Pt.cells, Pt.slots] at X9 l9 y9 z9 st9 hQ9
    subst l9 y9 z9
    obtain ⟨rfl, Nq9, Kq9, P9_0, P9_1, P9_2, P9_3⟩ := hQ9
    have N9 := Fr.app N6 Nq9
    have e9 : T9.heap = T9.heap := rfl
    have Z10 := Nat.le_trans Z7 Kq9.1
    refine own_tr st9 ?_
    show own_E p e below _ T9 (mkF m 46 #[iv p1, iv p2, iv p3, iv p4, iv 0, rv b2, .unset] [])
    refine own_st (fun t k => XS.aload X9.here hx rfl (hb hby at_46) rfl rfl k) ?_
    show own_E p e below _ T9 (mkF m 48 #[iv p1, iv p2, iv p3, iv p4, iv 0, rv b2, .unset] [.ref b2])
    obtain ⟨cq11, kq11, q11a, q11b, q11c⟩ := isOf hZ e9 P9_0
    obtain ⟨_, _, ⟨T11, L11, k11, n11⟩, -, X11, ⟨Lc11, hQ11, l11, y11, z11⟩, st11⟩ := X9.virtualBack hx (y := own_y7) (z := own_y7) hown (mvT hZ (own_w hw 30 rfl)) (mvT hZ (own_w hw 31 rfl)) (notFace_of_selects (args := #[]) (mvT hZ (own_w hw 33 rfl))) (mvT hZ (own_w hw 33 rfl)) (mvT hZ (own_w hw 32 rfl)) (by decide) (backOf (W := 0) (own_size l Z a0 hw [] b2 (1 : Int32) T9.heap n0 Z10 P9_2) hZ (own_w hw 34 rfl) (own_w hw 3 rfl) (by decide) (by decide)) q11a q11c (g := (mkF m 48 #[iv p1, iv p2, iv p3, iv p4, iv 0, rv b2, .unset] [.ref b2])) rfl (by rw [hml]; rfl) (Steps.refl _) (argsL := []) (rest := []) (lenOf own_pd_0 rfl) rfl (by show 2 * 0 + _ ≤ _; exact Nat.le_of_eq rfl) (hb hby at_48) (fun _ _ => ⟨rfl, e9, (by decide : 2 + 0 ≤ _), (by decide : 18 + 0 ≤ _)⟩)
    dsimp only [Pt.U, Pt.locs, Pt.cells, Pt.slots] at X11 l11 y11 z11 st11 hQ11
    subst l11 y11 z11
    obtain ⟨hR11, e11, rfl⟩ := hQ11
    have N11 := Fr.app N9 (Fr.nil n0)
    obtain rfl := hR11
    refine own_tr st11 ?_
    show own_E p e below _ T11 (mkF m 51 #[iv p1, iv p2, iv p3, iv p4, iv 0, rv b2, .unset] [.int 1])
    refine own_st (fun t k => XS.iload X11.here hx rfl (hb hby at_51) rfl k) ?_
    show own_E p e below _ T11 (mkF m 53 #[iv p1, iv p2, iv p3, iv p4, iv 0, rv b2, .unset] [.int 0, .int 1])
    refine own_st (fun t k => XS.iconst X11.here hx rfl (hb hby at_53) k) ?_
    show own_E p e below _ T11 (mkF m 54 #[iv p1, iv p2, iv p3, iv p4, iv 0, rv b2, .unset] [.int 1, .int 0, .int 1])
    refine own_st (fun t k => XS.iadd X11.here hx rfl (hb hby at_54) rfl k) ?_
    show own_E p e below _ T11 (mkF m 55 #[iv p1, iv p2, iv p3, iv p4, iv 0, rv b2, .unset] [.int 1, .int 1])
    refine own_st (fun t k => XS.icmpNo X11.here hx rfl (hb hby at_55) rfl (by decide) k) ?_
    show own_E p e below _ T11 (mkF m 58 #[iv p1, iv p2, iv p3, iv p4, iv 0, rv b2, .unset] [])
    refine own_st (fun t k => XS.aload X11.here hx rfl (hb hby at_58) rfl rfl k) ?_
    show own_E p e below _ T11 (mkF m 60 #[iv p1, iv p2, iv p3, iv p4, iv 0, rv b2, .unset] [.ref b2])
    refine own_st (fun t k => XS.iload X11.here hx rfl (hb hby at_60) rfl k) ?_
    show own_E p e below _ T11 (mkF m 62 #[iv p1, iv p2, iv p3, iv p4, iv 0, rv b2, .unset] [.int 0, .ref b2])
    obtain ⟨cq12, kq12, q12a, q12b, q12c⟩ := isOf hZ e11 P9_0
    obtain ⟨_, _, ⟨T12, L12, k12, n12⟩, -, X12, ⟨Lc12, hQ12, l12, y12, z12⟩, st12⟩ := X11.virtualBack hx (y := own_y6) (z := own_y6) hown (mvT hZ (own_w hw 35 rfl)) (mvT hZ (own_w hw 36 rfl)) (notFace_of_selects (args := #[]) (mvT hZ (own_w hw 38 rfl))) (mvT hZ (own_w hw 38 rfl)) (mvT hZ (own_w hw 37 rfl)) (by decide) (backOf (W := 0) (own_get16_0 l Z a0 hw [] b2 b4_o0 k4_o1 p1 (0 : Int32) (0 : Int32) (0 : Int32) (0 : Int32) (0 : Int32) (0 : Int32) (0 : Int32) (0 : Int32) (0 : Int32) (0 : Int32) (0 : Int32) (0 : Int32) (0 : Int32) (0 : Int32) (0 : Int32) T9.heap n0 Z10 P9_1 P9_3) hZ (own_w hw 39 rfl) (own_w hw 3 rfl) (by decide) (by decide)) q12a q12c (g := (mkF m 62 #[iv p1, iv p2, iv p3, iv p4, iv 0, rv b2, .unset] [.int 0, .ref b2])) rfl (by rw [hml]; rfl) (Steps.refl _) (argsL := [(.int (0 : Int32))]) (rest := []) (lenOf own_pd_2 rfl) rfl (by show 2 * 0 + _ ≤ _; exact Nat.le_of_eq rfl) (hb hby at_62) (fun _ _ => ⟨rfl, e11, (by decide : 2 + 0 ≤ _), (by decide : 18 + 0 ≤ _)⟩)
    dsimp only [Pt.U, Pt.locs, Pt.cells, Pt.slots] at X12 l12 y12 z12 st12 hQ12
    subst l12 y12 z12
    obtain ⟨hR12, e12, rfl⟩ := hQ12
    have N12 := Fr.app N11 (Fr.nil n0)
    obtain rfl := hR12
    refine own_tr st12 ?_
    show own_E p e below _ T12 (mkF m 65 #[iv p1, iv p2, iv p3, iv p4, iv 0, rv b2, .unset] [.int p1])
    refine own_st (fun t k => XS.iloadN X12.here hx rfl (hb hby at_65) rfl k) ?_
    show own_E p e below _ T12 (mkF m 66 #[iv p1, iv p2, iv p3, iv p4, iv 0, rv b2, .unset] [.int p1, .int p1])
    refine own_st (fun t k => XS.icmpNo X12.here hx rfl (hb hby at_66) rfl (teq rfl).2 k) ?_
    show own_E p e below _ T12 (mkF m 69 #[iv p1, iv p2, iv p3, iv p4, iv 0, rv b2, .unset] [])
    refine own_st (fun t k => XS.iconst X12.here hx rfl (hb hby at_69) k) ?_
    show own_E p e below _ T12 (mkF m 70 #[iv p1, iv p2, iv p3, iv p4, iv 0, rv b2, .unset] [.int 1])
    refine own_st (fun t k => XS.goto X12.here hx rfl (pc0 := 70) (pc' := 74) rfl (hb hby at_70) (by decide) (by decide) k) ?_
    show own_E p e below _ T12 (mkF m 74 #[iv p1, iv p2, iv p3, iv p4, iv 0, rv b2, .unset] [.int 1])
    refine own_st (fun t k => XS.istore X12.here hx rfl (hb hby at_74) rfl (l' := #[iv p1, iv p2, iv p3, iv p4, iv 0, rv b2, iv 1]) rfl k) ?_
    show own_E p e below _ T12 (mkF m 76 #[iv p1, iv p2, iv p3, iv p4, iv 0, rv b2, iv 1] [])
    refine own_st (fun t k => XS.aload X12.here hx rfl (hb hby at_76) rfl rfl k) ?_
    show own_E p e below _ T12 (mkF m 78 #[iv p1, iv p2, iv p3, iv p4, iv 0, rv b2, iv 1] [.ref b2])
    refine own_st (fun t k => XS.iloadN X12.here hx rfl (hb hby at_78) rfl k) ?_
    show own_E p e below _ T12 (mkF m 79 #[iv p1, iv p2, iv p3, iv p4, iv 0, rv b2, iv 1] [.int p2, .ref b2])
    obtain ⟨cq13, kq13, q13a, q13b, q13c⟩ := isOf hZ e12 P9_0
    obtain ⟨_, _, ⟨T13, L13, k13, n13⟩, -, X13, ⟨Lc13, hQ13, l13, y13, z13⟩, st13⟩ := X12.virtualBack hx (y := own_y5) (z := own_y5) hown (mvT hZ (own_w hw 25 rfl)) (mvT hZ (own_w hw 26 rfl)) (notFace_of_selects (args := #[]) (mvT hZ (own_w hw 28 rfl))) (mvT hZ (own_w hw 28 rfl)) (mvT hZ (own_w hw 27 rfl)) (by decide) (backOf (W := 0) (own_add1 l Z a0 hw [] b2 b4_o0 k4_o1 p2 p1 (0 : Int32) (0 : Int32) (0 : Int32) (0 : Int32) (0 : Int32) (0 : Int32) (0 : Int32) (0 : Int32) (0 : Int32) (0 : Int32) (0 : Int32) (0 : Int32) (0 : Int32) (0 : Int32) (0 : Int32) T9.heap n0 Z10 P9_0 P9_1 P9_2 P9_3 ne_b2_b4_o0 g_b2 g_b4_o0) hZ (own_w hw 29 rfl) (own_w hw 3 rfl) (by decide) (by decide)) q13a q13c (g := (mkF m 79 #[iv p1, iv p2, iv p3, iv p4, iv 0, rv b2, iv 1] [.int p2, .ref b2])) rfl (by rw [hml]; rfl) (Steps.refl _) (argsL := [(.int p2)]) (rest := []) (lenOf own_pd_3 rfl) rfl (by show 2 * 0 + _ ≤ _; exact Nat.le_of_eq rfl) (hb hby at_79) (fun _ _ => ⟨rfl, e12, (by decide : 2 + 0 ≤ _), (by decide : 18 + 0 ≤ _)⟩)
    dsimp only [Pt.U, Pt.locs, Pt.cells, Pt.slots] at X13 l13 y13 z13 st13 hQ13
    subst l13 y13 z13
    obtain ⟨rfl, Nq13, Kq13, P13_0, P13_1, P13_2, P13_3⟩ := hQ13
    have N13 := Fr.app N12 Nq13
    have e13 : T13.heap = T13.heap := rfl
    have Z14 := Nat.le_trans Z10 Kq13.1
    refine own_tr st13 ?_
    show own_E p e below _ T13 (mkF m 82 #[iv p1, iv p2, iv p3, iv p4, iv 0, rv b2, iv 1] [])
    refine own_st (fun t k => XS.iload X13.here hx rfl (hb hby at_82) rfl k) ?_
    show own_E p e below _ T13 (mkF m 84 #[iv p1, iv p2, iv p3, iv p4, iv 0, rv b2, iv 1] [.int 1])
    refine own_st (fun t k => XS.ifNo X13.here hx rfl (hb hby at_84) rfl (by decide) k) ?_
    show own_E p e below _ T13 (mkF m 87 #[iv p1, iv p2, iv p3, iv p4, iv 0, rv b2, iv 1] [])
    refine own_st (fun t k => XS.aload X13.here hx rfl (hb hby at_87) rfl rfl k) ?_
    show own_E p e below _ T13 (mkF m 89 #[iv p1, iv p2, iv p3, iv p4, iv 0, rv b2, iv 1] [.ref b2])
    obtain ⟨cq15, kq15, q15a, q15b, q15c⟩ := isOf hZ e13 P13_0
    obtain ⟨_, _, ⟨T15, L15, k15, n15⟩, -, X15, ⟨Lc15, hQ15, l15, y15, z15⟩, st15⟩ := X13.virtualBack hx (y := own_y7) (z := own_y7) hown (mvT hZ (own_w hw 30 rfl)) (mvT hZ (own_w hw 31 rfl)) (notFace_of_selects (args := #[]) (mvT hZ (own_w hw 33 rfl))) (mvT hZ (own_w hw 33 rfl)) (mvT hZ (own_w hw 32 rfl)) (by decide) (backOf (W := 0) (own_size l Z a0 hw [] b2 (2 : Int32) T13.heap n0 Z14 P13_2) hZ (own_w hw 34 rfl) (own_w hw 3 rfl) (by decide) (by decide)) q15a q15c (g := (mkF m 89 #[iv p1, iv p2, iv p3, iv p4, iv 0, rv b2, iv 1] [.ref b2])) rfl (by rw [hml]; rfl) (Steps.refl _) (argsL := []) (rest := []) (lenOf own_pd_0 rfl) rfl (by show 2 * 0 + _ ≤ _; exact Nat.le_of_eq rfl) (hb hby at_89) (fun _ _ => ⟨rfl, e13, (by decide : 2 + 0 ≤ _), (by decide : 18 + 0 ≤ _)⟩)
    dsimp only [Pt.U, Pt.locs, Pt.cells, Pt.slots] at X15 l15 y15 z15 st15 hQ15
    subst l15 y15 z15
    obtain ⟨hR15, e15, rfl⟩ := hQ15
    have N15 := Fr.app N13 (Fr.nil n0)
    obtain rfl := hR15
    refine own_tr st15 ?_
    show own_E p e below _ T15 (mkF m 92 #[iv p1, iv p2, iv p3, iv p4, iv 0, rv b2, iv 1] [.int 2])
    refine own_st (fun t k => XS.iload X15.here hx rfl (hb hby at_92) rfl k) ?_
    show own_E p e below _ T15 (mkF m 94 #[iv p1, iv p2, iv p3, iv p4, iv 0, rv b2, iv 1] [.int 0, .int 2])
    refine own_st (fun t k => XS.iconst X15.here hx rfl (hb hby at_94) k) ?_
    show own_E p e below _ T15 (mkF m 95 #[iv p1, iv p2, iv p3, iv p4, iv 0, rv b2, iv 1] [.int 2, .int 0, .int 2])
    refine own_st (fun t k => XS.iadd X15.here hx rfl (hb hby at_95) rfl k) ?_
    show own_E p e below _ T15 (mkF m 96 #[iv p1, iv p2, iv p3, iv p4, iv 0, rv b2, iv 1] [.int 2, .int 2])
    refine own_st (fun t k => XS.icmpNo X15.here hx rfl (hb hby at_96) rfl (by decide) k) ?_
    show own_E p e below _ T15 (mkF m 99 #[iv p1, iv p2, iv p3, iv p4, iv 0, rv b2, iv 1] [])
    refine own_st (fun t k => XS.aload X15.here hx rfl (hb hby at_99) rfl rfl k) ?_
    show own_E p e below _ T15 (mkF m 101 #[iv p1, iv p2, iv p3, iv p4, iv 0, rv b2, iv 1] [.ref b2])
    refine own_st (fun t k => XS.iload X15.here hx rfl (hb hby at_101) rfl k) ?_
    show own_E p e below _ T15 (mkF m 103 #[iv p1, iv p2, iv p3, iv p4, iv 0, rv b2, iv 1] [.int 0, .ref b2])
    obtain ⟨cq16, kq16, q16a, q16b, q16c⟩ := isOf hZ e15 P13_0
    obtain ⟨_, _, ⟨T16, L16, k16, n16⟩, -, X16, ⟨Lc16, hQ16, l16, y16, z16⟩, st16⟩ := X15.virtualBack hx (y := own_y6) (z := own_y6) hown (mvT hZ (own_w hw 35 rfl)) (mvT hZ (own_w hw 36 rfl)) (notFace_of_selects (args := #[]) (mvT hZ (own_w hw 38 rfl))) (mvT hZ (own_w hw 38 rfl)) (mvT hZ (own_w hw 37 rfl)) (by decide) (backOf (W := 0) (own_get16_0 l Z a0 hw [] b2 b4_o0 k4_o1 p1 p2 (0 : Int32) (0 : Int32) (0 : Int32) (0 : Int32) (0 : Int32) (0 : Int32) (0 : Int32) (0 : Int32) (0 : Int32) (0 : Int32) (0 : Int32) (0 : Int32) (0 : Int32) (0 : Int32) T13.heap n0 Z14 P13_1 P13_3) hZ (own_w hw 39 rfl) (own_w hw 3 rfl) (by decide) (by decide)) q16a q16c (g := (mkF m 103 #[iv p1, iv p2, iv p3, iv p4, iv 0, rv b2, iv 1] [.int 0, .ref b2])) rfl (by rw [hml]; rfl) (Steps.refl _) (argsL := [(.int (0 : Int32))]) (rest := []) (lenOf own_pd_2 rfl) rfl (by show 2 * 0 + _ ≤ _; exact Nat.le_of_eq rfl) (hb hby at_103) (fun _ _ => ⟨rfl, e15, (by decide : 2 + 0 ≤ _), (by decide : 18 + 0 ≤ _)⟩)
    dsimp only [Pt.U, Pt.locs, Pt.cells, Pt.slots] at X16 l16 y16 z16 st16 hQ16
    subst l16 y16 z16
    obtain ⟨hR16, e16, rfl⟩ := hQ16
    have N16 := Fr.app N15 (Fr.nil n0)
    obtain rfl := hR16
    refine own_tr st16 ?_
    show own_E p e below _ T16 (mkF m 106 #[iv p1, iv p2, iv p3, iv p4, iv 0, rv b2, iv 1] [.int p1])
    refine own_st (fun t k => XS.iloadN X16.here hx rfl (hb hby at_106) rfl k) ?_
    show own_E p e below _ T16 (mkF m 107 #[iv p1, iv p2, iv p3, iv p4, iv 0, rv b2, iv 1] [.int p1, .int p1])
    refine own_st (fun t k => XS.icmpNo X16.here hx rfl (hb hby at_107) rfl (teq rfl).2 k) ?_
    show own_E p e below _ T16 (mkF m 110 #[iv p1, iv p2, iv p3, iv p4, iv 0, rv b2, iv 1] [])
    refine own_st (fun t k => XS.aload X16.here hx rfl (hb hby at_110) rfl rfl k) ?_
    show own_E p e below _ T16 (mkF m 112 #[iv p1, iv p2, iv p3, iv p4, iv 0, rv b2, iv 1] [.ref b2])
    refine own_st (fun t k => XS.iload X16.here hx rfl (hb hby at_112) rfl k) ?_
    show own_E p e below _ T16 (mkF m 114 #[iv p1, iv p2, iv p3, iv p4, iv 0, rv b2, iv 1] [.int 0, .ref b2])
    refine own_st (fun t k => XS.iconst X16.here hx rfl (hb hby at_114) k) ?_
    show own_E p e below _ T16 (mkF m 115 #[iv p1, iv p2, iv p3, iv p4, iv 0, rv b2, iv 1] [.int 1, .int 0, .ref b2])
    refine own_st (fun t k => XS.iadd X16.here hx rfl (hb hby at_115) rfl k) ?_
    show own_E p e below _ T16 (mkF m 116 #[iv p1, iv p2, iv p3, iv p4, iv 0, rv b2, iv 1] [.int 1, .ref b2])
    obtain ⟨cq17, kq17, q17a, q17b, q17c⟩ := isOf hZ e16 P13_0
    obtain ⟨_, _, ⟨T17, L17, k17, n17⟩, -, X17, ⟨Lc17, hQ17, l17, y17, z17⟩, st17⟩ := X16.virtualBack hx (y := own_y6) (z := own_y6) hown (mvT hZ (own_w hw 35 rfl)) (mvT hZ (own_w hw 36 rfl)) (notFace_of_selects (args := #[]) (mvT hZ (own_w hw 38 rfl))) (mvT hZ (own_w hw 38 rfl)) (mvT hZ (own_w hw 37 rfl)) (by decide) (backOf (W := 0) (own_get16_1 l Z a0 hw [] b2 b4_o0 k4_o1 p1 p2 (0 : Int32) (0 : Int32) (0 : Int32) (0 : Int32) (0 : Int32) (0 : Int32) (0 : Int32) (0 : Int32) (0 : Int32) (0 : Int32) (0 : Int32) (0 : Int32) (0 : Int32) (0 : Int32) T13.heap n0 Z14 P13_1 P13_3) hZ (own_w hw 39 rfl) (own_w hw 3 rfl) (by decide) (by decide)) q17a q17c (g := (mkF m 116 #[iv p1, iv p2, iv p3, iv p4, iv 0, rv b2, iv 1] [.int 1, .ref b2])) rfl (by rw [hml]; rfl) (Steps.refl _) (argsL := [(.int (1 : Int32))]) (rest := []) (lenOf own_pd_2 rfl) rfl (by show 2 * 0 + _ ≤ _; exact Nat.le_of_eq rfl) (hb hby at_116) (fun _ _ => ⟨rfl, e16, (by decide : 2 + 0 ≤ _), (by decide : 18 + 0 ≤ _)⟩)
    dsimp only [Pt.U, Pt.locs, Pt.cells, Pt.slots] at X17 l17 y17 z17 st17 hQ17
    subst l17 y17 z17
    obtain ⟨hR17, e17, rfl⟩ := hQ17
    have N17 := Fr.app N16 (Fr.nil n0)
    obtain rfl := hR17
    refine own_tr st17 ?_
    show own_E p e below _ T17 (mkF m 119 #[iv p1, iv p2, iv p3, iv p4, iv 0, rv b2, iv 1] [.int p2])
    refine own_st (fun t k => XS.iloadN X17.here hx rfl (hb hby at_119) rfl k) ?_
    show own_E p e below _ T17 (mkF m 120 #[iv p1, iv p2, iv p3, iv p4, iv 0, rv b2, iv 1] [.int p2, .int p2])
    refine own_st (fun t k => XS.icmpNo X17.here hx rfl (hb hby at_120) rfl (teq rfl).2 k) ?_
    show own_E p e below _ T17 (mkF m 123 #[iv p1, iv p2, iv p3, iv p4, iv 0, rv b2, iv 1] [])
    refine own_st (fun t k => XS.iconst X17.here hx rfl (hb hby at_123) k) ?_
    show own_E p e below _ T17 (mkF m 124 #[iv p1, iv p2, iv p3, iv p4, iv 0, rv b2, iv 1] [.int 1])
    refine own_st (fun t k => XS.goto X17.here hx rfl (pc0 := 124) (pc' := 128) rfl (hb hby at_124) (by decide) (by decide) k) ?_
    show own_E p e below _ T17 (mkF m 128 #[iv p1, iv p2, iv p3, iv p4, iv 0, rv b2, iv 1] [.int 1])
    refine own_st (fun t k => XS.istore X17.here hx rfl (hb hby at_128) rfl (l' := #[iv p1, iv p2, iv p3, iv p4, iv 0, rv b2, iv 1]) rfl k) ?_
    show own_E p e below _ T17 (mkF m 130 #[iv p1, iv p2, iv p3, iv p4, iv 0, rv b2, iv 1] [])
    refine own_st (fun t k => XS.iload X17.here hx rfl (hb hby at_130) rfl k) ?_
    show own_E p e below _ T17 (mkF m 132 #[iv p1, iv p2, iv p3, iv p4, iv 0, rv b2, iv 1] [.int 0])
    refine own_st (fun t k => XS.ifYes X17.here hx rfl (pc0 := 132) (pc' := 160) rfl (hb hby at_132) rfl (by decide) (by decide) (by decide) k) ?_
    show own_E p e below _ T17 (mkF m 160 #[iv p1, iv p2, iv p3, iv p4, iv 0, rv b2, iv 1] [])
    refine own_st (fun t k => XS.iload X17.here hx rfl (hb hby at_160) rfl k) ?_
    show own_E p e below _ T17 (mkF m 162 #[iv p1, iv p2, iv p3, iv p4, iv 0, rv b2, iv 1] [.int 1])
    refine own_retS X17 hx Bd.notSynchronized Bd.returns rfl (by decide) (hb hby at_162) (by decide) (by decide) ?_
    exact ⟨rfl, N17⟩
  · rw [hs1]
    show own_E p e below _ s₁ (mkF m 9 #[iv p1, iv p2, iv p3, iv p4, iv 1, .unset, .unset] [])
    obtain ⟨T18, h18, X18, e18, E18, A18, D18, -, st18⟩ := newO X0 hx hZ hown (own_w hw 1 rfl) (own_w hw 2 rfl) (own_w hw 3 rfl) e0 (g := (mkF m 9 #[iv p1, iv p2, iv p3, iv p4, iv 1, .unset, .unset] [])) rfl (hb hby at_9) (by decide) (by decide)
    obtain ⟨b18, g18⟩ : ∃ z, z = h0.size := ⟨_, rfl⟩
    rw [← g18] at A18 D18 st18
    have g_b18 : n0 ≤ b18 := Nat.le_trans Z0 (Nat.le_of_eq g18.symm)
    have Z19 := Nat.le_trans Z0 E18.1
    have F_values_b18 : Fld Z h18 b18 "com/example/kalchas/kalchas/IntList" "values" "[I" .null := D18 (Or.inl (own_w hw 12 rfl)) (ty := (.array .int)) (by decide)
    have F_size_b18 : Fld Z h18 b18 "com/example/kalchas/kalchas/IntList" "size" "I" (.int (0 : Int32)) := D18 (Or.inl (own_w hw 19 rfl)) (ty := .int) (by decide)
    refine own_st st18 ?_
    show own_E p e below _ T18 (mkF m 12 #[iv p1, iv p2, iv p3, iv p4, iv 1, .unset, .unset] [.ref b18])
    refine own_st (fun t k => XS.dup X18.here hx rfl (hb hby at_12) rfl rfl k) ?_
    show own_E p e below _ T18 (mkF m 13 #[iv p1, iv p2, iv p3, iv p4, iv 1, .unset, .unset] [.ref b18, .ref b18])
    obtain ⟨_, _, ⟨T20, L20, k20, n20⟩, -, X20, ⟨Lc20, hQ20, l20, y20, z20⟩, st20⟩ := X18.specialBack hx (y := own_y2) rfl hown (mvT hZ (own_w hw 4 rfl)) (mvT hZ (own_w hw 5 rfl)) (mvT hZ (own_w hw 6 rfl)) (by decide) (backOf (W := 1) (own_init l Z a0 hw [] b18 h18 n0 Z19 A18 F_values_b18 F_size_b18 g_b18) hZ (own_w hw 6 rfl) (own_w hw 3 rfl) (by decide) (by decide)) (g := (mkF m 13 #[iv p1, iv p2, iv p3, iv p4, iv 1, .unset, .unset] [.ref b18, .ref b18])) rfl (by rw [hml]; rfl) (Steps.refl _) (a := b18) (argsL := []) (rest := [(.ref b18)]) (lenOf own_pd_1 rfl) rfl (by show 2 * 0 + _ ≤ _; exact Nat.le_of_eq rfl) (hb hby at_13) (fun _ _ => ⟨rfl, e18, (by decide : 1 + 1 ≤ _), (by decide : 2 + 16 ≤ _)⟩)
    dsimp only [Pt.U, Pt.locs, Pt.cells, Pt.slots] at X20 l20 y20 z20 st20 hQ20
    subst l20 y20 z20
    obtain ⟨b20_o0, k20_o1, rfl, Nq20, Kq20, sz20_0, P20_0, P20_1, P20_2, P20_3⟩ := hQ20
    have N20 := Fr.app (Fr.nil n0) Nq20
    have ne_b18_b20_o0 : b18 ≠ b20_o0 := Nat.ne_of_lt (Nat.lt_of_lt_of_le A18.lt sz20_0)
    have g_b20_o0 : n0 ≤ b20_o0 := Nat.le_trans Z19 sz20_0
    have e20 : T20.heap = T20.heap := rfl
    have Z21 := Nat.le_trans Z19 Kq20.1
    refine own_tr st20 ?_
    show own_E p e below _ T20 (mkF m 16 #[iv p1, iv p2, iv p3, iv p4, iv 1, .unset, .unset] [.ref b18])
    refine own_st (fun t k => XS.astore X20.here hx rfl (hb hby at_16) rfl rfl (l' := #[iv p1, iv p2, iv p3, iv p4, iv 1, rv b18, .unset]) rfl k) ?_
    show own_E p e below _ T20 (mkF m 18 #[iv p1, iv p2, iv p3, iv p4, iv 1, rv b18, .unset] [])
    refine own_st (fun t k => XS.aload X20.here hx rfl (hb hby at_18) rfl rfl k) ?_
    show own_E p e below _ T20 (mkF m 20 #[iv p1, iv p2, iv p3, iv p4, iv 1, rv b18, .unset] [.ref b18])
    refine own_st (fun t k => XS.iload X20.here hx rfl (hb hby at_20) rfl k) ?_
    show own_E p e below _ T20 (mkF m 22 #[iv p1, iv p2, iv p3, iv p4, iv 1, rv b18, .unset] [.int 1, .ref b18])
    obtain ⟨cq22, kq22, q22a, q22b, q22c⟩ := isOf hZ e20 P20_0
    obtain ⟨_, _, ⟨T22, L22, k22, n22⟩, -, X22, ⟨Lc22, hQ22, l22, y22, z22⟩, st22⟩ := X20.virtualBack hx (y := own_y3) (z := own_y3) hown (mvT hZ (own_w hw 13 rfl)) (mvT hZ (own_w hw 14 rfl)) (notFace_of_selects (args := #[]) (mvT hZ (own_w hw 16 rfl))) (mvT hZ (own_w hw 16 rfl)) (mvT hZ (own_w hw 15 rfl)) (by decide) (backOf (W := 0) (own_trunc l Z a0 hw [] b18 b20_o0 (1 : Int32) (0 : Int32) T20.heap n0 Z21 P20_0 P20_1 P20_2 g_b18) hZ (own_w hw 17 rfl) (own_w hw 3 rfl) (by decide) (by decide)) q22a q22c (g := (mkF m 22 #[iv p1, iv p2, iv p3, iv p4, iv 1, rv b18, .unset] [.int 1, .ref b18])) rfl (by rw [hml]; rfl) (Steps.refl _) (argsL := [(.int (1 : Int32))]) (rest := []) (lenOf own_pd_3 rfl) rfl (by show 2 * 0 + _ ≤ _; exact Nat.le_of_eq rfl) (hb hby at_22) (fun _ _ => ⟨rfl, e20, (by decide : 2 + 0 ≤ _), (by decide : 18 + 0 ≤ _)⟩)
    dsimp only [Pt.U, Pt.locs, Pt.cells, Pt.slots] at X22 l22 y22 z22 st22 hQ22
    subst l22 y22 z22
    obtain ⟨rfl, Nq22, Kq22, P22_0, P22_1, P22_2⟩ := hQ22
    have N22 := Fr.app N20 Nq22
    have e22 : T22.heap = T22.heap := rfl
    have Z23 := Nat.le_trans Z21 Kq22.1
    refine own_tr st22 ?_
    show own_E p e below _ T22 (mkF m 25 #[iv p1, iv p2, iv p3, iv p4, iv 1, rv b18, .unset] [])
    refine own_st (fun t k => XS.iload X22.here hx rfl (hb hby at_25) rfl k) ?_
    show own_E p e below _ T22 (mkF m 27 #[iv p1, iv p2, iv p3, iv p4, iv 1, rv b18, .unset] [.int 1])
    refine own_st (fun t k => XS.ifNo X22.here hx rfl (hb hby at_27) rfl (by decide) k) ?_
    show own_E p e below _ T22 (mkF m 30 #[iv p1, iv p2, iv p3, iv p4, iv 1, rv b18, .unset] [])
    refine own_st (fun t k => XS.aload X22.here hx rfl (hb hby at_30) rfl rfl k) ?_
    show own_E p e below _ T22 (mkF m 32 #[iv p1, iv p2, iv p3, iv p4, iv 1, rv b18, .unset] [.ref b18])
    refine own_st (fun t k => XS.iload X22.here hx rfl (hb hby at_32) rfl k) ?_
    show own_E p e below _ T22 (mkF m 34 #[iv p1, iv p2, iv p3, iv p4, iv 1, rv b18, .unset] [.int 1, .ref b18])
    refine own_st (fun t k => XS.iconst X22.here hx rfl (hb hby at_34) k) ?_
    show own_E p e below _ T22 (mkF m 35 #[iv p1, iv p2, iv p3, iv p4, iv 1, rv b18, .unset] [.int 1, .int 1, .ref b18])
    refine own_st (fun t k => XS.isub X22.here hx rfl (hb hby at_35) rfl k) ?_
    show own_E p e below _ T22 (mkF m 36 #[iv p1, iv p2, iv p3, iv p4, iv 1, rv b18, .unset] [.int 0, .ref b18])
    refine own_st (fun t k => XS.iloadN X22.here hx rfl (hb hby at_36) rfl k) ?_
    show own_E p e below _ T22 (mkF m 37 #[iv p1, iv p2, iv p3, iv p4, iv 1, rv b18, .unset] [.int p3, .int 0, .ref b18])
    have B24 := (P20_3.keep Kq22 (ninS (Ne.symm ne_b18_b20_o0) nin0))
    obtain ⟨cq25, kq25, q25a, q25b, q25c⟩ := isOf hZ e22 P22_0
    obtain ⟨_, _, ⟨T25, L25, k25, n25⟩, -, X25, ⟨Lc25, hQ25, l25, y25, z25⟩, st25⟩ := X22.virtualBack hx (y := own_y4) (z := own_y4) hown (mvT hZ (own_w hw 20 rfl)) (mvT hZ (own_w hw 21 rfl)) (notFace_of_selects (args := #[]) (mvT hZ (own_w hw 23 rfl))) (mvT hZ (own_w hw 23 rfl)) (mvT hZ (own_w hw 22 rfl)) (by decide) (backOf (W := 0) (own_set0 l Z a0 hw [] b18 b20_o0 k20_o1 p3 (0 : Int32) (0 : Int32) (0 : Int32) (0 : Int32) (0 : Int32) (0 : Int32) (0 : Int32) (0 : Int32) (0 : Int32) (0 : Int32) (0 : Int32) (0 : Int32) (0 : Int32) (0 : Int32) (0 : Int32) (0 : Int32) T22.heap n0 Z23 P22_1 B24 ne_b18_b20_o0 g_b20_o0) hZ (own_w hw 24 rfl) (own_w hw 3 rfl) (by decide) (by decide)) q25a q25c (g := (mkF m 37 #[iv p1, iv p2, iv p3, iv p4, iv 1, rv b18, .unset] [.int p3, .int 0, .ref b18])) rfl (by rw [hml]; rfl) (Steps.refl _) (argsL := [(.int (0 : Int32)), (.int p3)]) (rest := []) (lenOf own_pd_5 rfl) rfl (by show 2 * 0 + _ ≤ _; exact Nat.le_of_eq rfl) (hb hby at_37) (fun _ _ => ⟨rfl, e22, (by decide : 2 + 0 ≤ _), (by decide : 18 + 0 ≤ _)⟩)
    dsimp only [Pt.U, Pt.locs, Pt.cells, Pt.slots] at X25 l25 y25 z25 st25 hQ25
    subst l25 y25 z25
    obtain ⟨rfl, Nq25, Kq25, P25_0⟩ := hQ25
    have N25 := Fr.app N22 Nq25
    have e25 : T25.heap = T25.heap := rfl
    have Z26 := Nat.le_trans Z23 Kq25.1
    refine own_tr st25 ?_
    show own_E p e below _ T25 (mkF m 40 #[iv p1, iv p2, iv p3, iv p4, iv 1, rv b18, .unset] [])
    refine own_st (fun t k => XS.aload X25.here hx rfl (hb hby at_40) rfl rfl k) ?_
    show own_E p e below _ T25 (mkF m 42 #[iv p1, iv p2, iv p3, iv p4, iv 1, rv b18, .unset] [.ref b18])
    refine own_st (fun t k => XS.iloadN X25.here hx rfl (hb hby at_42) rfl k) ?_
    show own_E p e below _ T25 (mkF m 43 #[iv p1, iv p2, iv p3, iv p4, iv 1, rv b18, .unset] [.int p1, .ref b18])
    have B27 := (P22_0.keep Kq25)
    have B28 := (P22_1.keep Kq25 (ninS ne_b18_b20_o0 nin0))
    have B29 := (P22_2.keep Kq25 (ninS ne_b18_b20_o0 nin0))
    obtain ⟨cq30, kq30, q30a, q30b, q30c⟩ := isOf hZ e25 B27
    obtain ⟨_, _, ⟨T30, L30, k30, n30⟩, -, X30, ⟨Lc30, hQ30, l30, y30, z30⟩, st30⟩ := X25.virtualBack hx (y := own_y5) (z := own_y5) hown (mvT hZ (own_w hw 25 rfl)) (mvT hZ (own_w hw 26 rfl)) (notFace_of_selects (args := #[]) (mvT hZ (own_w hw 28 rfl))) (mvT hZ (own_w hw 28 rfl)) (mvT hZ (own_w hw 27 rfl)) (by decide) (backOf (W := 0) (own_add1 l Z a0 hw [] b18 b20_o0 k20_o1 p1 p3 (0 : Int32) (0 : Int32) (0 : Int32) (0 : Int32) (0 : Int32) (0 : Int32) (0 : Int32) (0 : Int32) (0 : Int32) (0 : Int32) (0 : Int32) (0 : Int32) (0 : Int32) (0 : Int32) (0 : Int32) T25.heap n0 Z26 B27 B28 B29 P25_0 ne_b18_b20_o0 g_b18 g_b20_o0) hZ (own_w hw 29 rfl) (own_w hw 3 rfl) (by decide) (by decide)) q30a q30c (g := (mkF m 43 #[iv p1, iv p2, iv p3, iv p4, iv 1, rv b18, .unset] [.int p1, .ref b18])) rfl (by rw [hml]; rfl) (Steps.refl _) (argsL := [(.int p1)]) (rest := []) (lenOf own_pd_3 rfl) rfl (by show 2 * 0 + _ ≤ _; exact Nat.le_of_eq rfl) (hb hby at_43) (fun _ _ => ⟨rfl, e25, (by decide : 2 + 0 ≤ _), (by decide : 18 + 0 ≤ _)⟩)
    dsimp only [Pt.U, Pt.locs, Pt.cells, Pt.slots] at X30 l30 y30 z30 st30 hQ30
    subst l30 y30 z30
    obtain ⟨rfl, Nq30, Kq30, P30_0, P30_1, P30_2, P30_3⟩ := hQ30
    have N30 := Fr.app N25 Nq30
    have e30 : T30.heap = T30.heap := rfl
    have Z31 := Nat.le_trans Z26 Kq30.1
    refine own_tr st30 ?_
    show own_E p e below _ T30 (mkF m 46 #[iv p1, iv p2, iv p3, iv p4, iv 1, rv b18, .unset] [])
    refine own_st (fun t k => XS.aload X30.here hx rfl (hb hby at_46) rfl rfl k) ?_
    show own_E p e below _ T30 (mkF m 48 #[iv p1, iv p2, iv p3, iv p4, iv 1, rv b18, .unset] [.ref b18])
    obtain ⟨cq32, kq32, q32a, q32b, q32c⟩ := isOf hZ e30 P30_0
    obtain ⟨_, _, ⟨T32, L32, k32, n32⟩, -, X32, ⟨Lc32, hQ32, l32, y32, z32⟩, st32⟩ := X30.virtualBack hx (y := own_y7) (z := own_y7) hown (mvT hZ (own_w hw 30 rfl)) (mvT hZ (own_w hw 31 rfl)) (notFace_of_selects (args := #[]) (mvT hZ (own_w hw 33 rfl))) (mvT hZ (own_w hw 33 rfl)) (mvT hZ (own_w hw 32 rfl)) (by decide) (backOf (W := 0) (own_size l Z a0 hw [] b18 (2 : Int32) T30.heap n0 Z31 P30_2) hZ (own_w hw 34 rfl) (own_w hw 3 rfl) (by decide) (by decide)) q32a q32c (g := (mkF m 48 #[iv p1, iv p2, iv p3, iv p4, iv 1, rv b18, .unset] [.ref b18])) rfl (by rw [hml]; rfl) (Steps.refl _) (argsL := []) (rest := []) (lenOf own_pd_0 rfl) rfl (by show 2 * 0 + _ ≤ _; exact Nat.le_of_eq rfl) (hb hby at_48) (fun _ _ => ⟨rfl, e30, (by decide : 2 + 0 ≤ _), (by decide : 18 + 0 ≤ _)⟩)
    dsimp only [Pt.U, Pt.locs, Pt.cells, Pt.slots] at X32 l32 y32 z32 st32 hQ32
    subst l32 y32 z32
    obtain ⟨hR32, e32, rfl⟩ := hQ32
    have N32 := Fr.app N30 (Fr.nil n0)
    obtain rfl := hR32
    refine own_tr st32 ?_
    show own_E p e below _ T32 (mkF m 51 #[iv p1, iv p2, iv p3, iv p4, iv 1, rv b18, .unset] [.int 2])
    refine own_st (fun t k => XS.iload X32.here hx rfl (hb hby at_51) rfl k) ?_
    show own_E p e below _ T32 (mkF m 53 #[iv p1, iv p2, iv p3, iv p4, iv 1, rv b18, .unset] [.int 1, .int 2])
    refine own_st (fun t k => XS.iconst X32.here hx rfl (hb hby at_53) k) ?_
    show own_E p e below _ T32 (mkF m 54 #[iv p1, iv p2, iv p3, iv p4, iv 1, rv b18, .unset] [.int 1, .int 1, .int 2])
    refine own_st (fun t k => XS.iadd X32.here hx rfl (hb hby at_54) rfl k) ?_
    show own_E p e below _ T32 (mkF m 55 #[iv p1, iv p2, iv p3, iv p4, iv 1, rv b18, .unset] [.int 2, .int 2])
    refine own_st (fun t k => XS.icmpNo X32.here hx rfl (hb hby at_55) rfl (by decide) k) ?_
    show own_E p e below _ T32 (mkF m 58 #[iv p1, iv p2, iv p3, iv p4, iv 1, rv b18, .unset] [])
    refine own_st (fun t k => XS.aload X32.here hx rfl (hb hby at_58) rfl rfl k) ?_
    show own_E p e below _ T32 (mkF m 60 #[iv p1, iv p2, iv p3, iv p4, iv 1, rv b18, .unset] [.ref b18])
    refine own_st (fun t k => XS.iload X32.here hx rfl (hb hby at_60) rfl k) ?_
    show own_E p e below _ T32 (mkF m 62 #[iv p1, iv p2, iv p3, iv p4, iv 1, rv b18, .unset] [.int 1, .ref b18])
    obtain ⟨cq33, kq33, q33a, q33b, q33c⟩ := isOf hZ e32 P30_0
    obtain ⟨_, _, ⟨T33, L33, k33, n33⟩, -, X33, ⟨Lc33, hQ33, l33, y33, z33⟩, st33⟩ := X32.virtualBack hx (y := own_y6) (z := own_y6) hown (mvT hZ (own_w hw 35 rfl)) (mvT hZ (own_w hw 36 rfl)) (notFace_of_selects (args := #[]) (mvT hZ (own_w hw 38 rfl))) (mvT hZ (own_w hw 38 rfl)) (mvT hZ (own_w hw 37 rfl)) (by decide) (backOf (W := 0) (own_get16_1 l Z a0 hw [] b18 b20_o0 k20_o1 p3 p1 (0 : Int32) (0 : Int32) (0 : Int32) (0 : Int32) (0 : Int32) (0 : Int32) (0 : Int32) (0 : Int32) (0 : Int32) (0 : Int32) (0 : Int32) (0 : Int32) (0 : Int32) (0 : Int32) T30.heap n0 Z31 P30_1 P30_3) hZ (own_w hw 39 rfl) (own_w hw 3 rfl) (by decide) (by decide)) q33a q33c (g := (mkF m 62 #[iv p1, iv p2, iv p3, iv p4, iv 1, rv b18, .unset] [.int 1, .ref b18])) rfl (by rw [hml]; rfl) (Steps.refl _) (argsL := [(.int (1 : Int32))]) (rest := []) (lenOf own_pd_2 rfl) rfl (by show 2 * 0 + _ ≤ _; exact Nat.le_of_eq rfl) (hb hby at_62) (fun _ _ => ⟨rfl, e32, (by decide : 2 + 0 ≤ _), (by decide : 18 + 0 ≤ _)⟩)
    dsimp only [Pt.U, Pt.locs, Pt.cells, Pt.slots] at X33 l33 y33 z33 st33 hQ33
    subst l33 y33 z33
    obtain ⟨hR33, e33, rfl⟩ := hQ33
    have N33 := Fr.app N32 (Fr.nil n0)
    obtain rfl := hR33
    refine own_tr st33 ?_
    show own_E p e below _ T33 (mkF m 65 #[iv p1, iv p2, iv p3, iv p4, iv 1, rv b18, .unset] [.int p1])
    refine own_st (fun t k => XS.iloadN X33.here hx rfl (hb hby at_65) rfl k) ?_
    show own_E p e below _ T33 (mkF m 66 #[iv p1, iv p2, iv p3, iv p4, iv 1, rv b18, .unset] [.int p1, .int p1])
    refine own_st (fun t k => XS.icmpNo X33.here hx rfl (hb hby at_66) rfl (teq rfl).2 k) ?_
    show own_E p e below _ T33 (mkF m 69 #[iv p1, iv p2, iv p3, iv p4, iv 1, rv b18, .unset] [])
    refine own_st (fun t k => XS.iconst X33.here hx rfl (hb hby at_69) k) ?_
    show own_E p e below _ T33 (mkF m 70 #[iv p1, iv p2, iv p3, iv p4, iv 1, rv b18, .unset] [.int 1])
    refine own_st (fun t k => XS.goto X33.here hx rfl (pc0 := 70) (pc' := 74) rfl (hb hby at_70) (by decide) (by decide) k) ?_
    show own_E p e below _ T33 (mkF m 74 #[iv p1, iv p2, iv p3, iv p4, iv 1, rv b18, .unset] [.int 1])
    refine own_st (fun t k => XS.istore X33.here hx rfl (hb hby at_74) rfl (l' := #[iv p1, iv p2, iv p3, iv p4, iv 1, rv b18, iv 1]) rfl k) ?_
    show own_E p e below _ T33 (mkF m 76 #[iv p1, iv p2, iv p3, iv p4, iv 1, rv b18, iv 1] [])
    refine own_st (fun t k => XS.aload X33.here hx rfl (hb hby at_76) rfl rfl k) ?_
    show own_E p e below _ T33 (mkF m 78 #[iv p1, iv p2, iv p3, iv p4, iv 1, rv b18, iv 1] [.ref b18])
    refine own_st (fun t k => XS.iloadN X33.here hx rfl (hb hby at_78) rfl k) ?_
    show own_E p e below _ T33 (mkF m 79 #[iv p1, iv p2, iv p3, iv p4, iv 1, rv b18, iv 1] [.int p2, .ref b18])
    obtain ⟨cq34, kq34, q34a, q34b, q34c⟩ := isOf hZ e33 P30_0
    obtain ⟨_, _, ⟨T34, L34, k34, n34⟩, -, X34, ⟨Lc34, hQ34, l34, y34, z34⟩, st34⟩ := X33.virtualBack hx (y := own_y5) (z := own_y5) hown (mvT hZ (own_w hw 25 rfl)) (mvT hZ (own_w hw 26 rfl)) (notFace_of_selects (args := #[]) (mvT hZ (own_w hw 28 rfl))) (mvT hZ (own_w hw 28 rfl)) (mvT hZ (own_w hw 27 rfl)) (by decide) (backOf (W := 0) (own_add2 l Z a0 hw [] b18 b20_o0 k20_o1 p2 p3 p1 (0 : Int32) (0 : Int32) (0 : Int32) (0 : Int32) (0 : Int32) (0 : Int32) (0 : Int32) (0 : Int32) (0 : Int32) (0 : Int32) (0 : Int32) (0 : Int32) (0 : Int32) (0 : Int32) T30.heap n0 Z31 P30_0 P30_1 P30_2 P30_3 ne_b18_b20_o0 g_b18 g_b20_o0) hZ (own_w hw 29 rfl) (own_w hw 3 rfl) (by decide) (by decide)) q34a q34c (g := (mkF m 79 #[iv p1, iv p2, iv p3, iv p4, iv 1, rv b18, iv 1] [.int p2, .ref b18])) rfl (by rw [hml]; rfl) (Steps.refl _) (argsL := [(.int p2)]) (rest := []) (lenOf own_pd_3 rfl) rfl (by show 2 * 0 + _ ≤ _; exact Nat.le_of_eq rfl) (hb hby at_79) (fun _ _ => ⟨rfl, e33, (by decide : 2 + 0 ≤ _), (by decide : 18 + 0 ≤ _)⟩)
    dsimp only [Pt.U, Pt.locs, Pt.cells, Pt.slots] at X34 l34 y34 z34 st34 hQ34
    subst l34 y34 z34
    obtain ⟨rfl, Nq34, Kq34, P34_0, P34_1, P34_2, P34_3⟩ := hQ34
    have N34 := Fr.app N33 Nq34
    have e34 : T34.heap = T34.heap := rfl
    have Z35 := Nat.le_trans Z31 Kq34.1
    refine own_tr st34 ?_
    show own_E p e below _ T34 (mkF m 82 #[iv p1, iv p2, iv p3, iv p4, iv 1, rv b18, iv 1] [])
    refine own_st (fun t k => XS.iload X34.here hx rfl (hb hby at_82) rfl k) ?_
    show own_E p e below _ T34 (mkF m 84 #[iv p1, iv p2, iv p3, iv p4, iv 1, rv b18, iv 1] [.int 1])
    refine own_st (fun t k => XS.ifNo X34.here hx rfl (hb hby at_84) rfl (by decide) k) ?_
    show own_E p e below _ T34 (mkF m 87 #[iv p1, iv p2, iv p3, iv p4, iv 1, rv b18, iv 1] [])
    refine own_st (fun t k => XS.aload X34.here hx rfl (hb hby at_87) rfl rfl k) ?_
    show own_E p e below _ T34 (mkF m 89 #[iv p1, iv p2, iv p3, iv p4, iv 1, rv b18, iv 1] [.ref b18])
    obtain ⟨cq36, kq36, q36a, q36b, q36c⟩ := isOf hZ e34 P34_0
    obtain ⟨_, _, ⟨T36, L36, k36, n36⟩, -, X36, ⟨Lc36, hQ36, l36, y36, z36⟩, st36⟩ := X34.virtualBack hx (y := own_y7) (z := own_y7) hown (mvT hZ (own_w hw 30 rfl)) (mvT hZ (own_w hw 31 rfl)) (notFace_of_selects (args := #[]) (mvT hZ (own_w hw 33 rfl))) (mvT hZ (own_w hw 33 rfl)) (mvT hZ (own_w hw 32 rfl)) (by decide) (backOf (W := 0) (own_size l Z a0 hw [] b18 (3 : Int32) T34.heap n0 Z35 P34_2) hZ (own_w hw 34 rfl) (own_w hw 3 rfl) (by decide) (by decide)) q36a q36c (g := (mkF m 89 #[iv p1, iv p2, iv p3, iv p4, iv 1, rv b18, iv 1] [.ref b18])) rfl (by rw [hml]; rfl) (Steps.refl _) (argsL := []) (rest := []) (lenOf own_pd_0 rfl) rfl (by show 2 * 0 + _ ≤ _; exact Nat.le_of_eq rfl) (hb hby at_89) (fun _ _ => ⟨rfl, e34, (by decide : 2 + 0 ≤ _), (by decide : 18 + 0 ≤ _)⟩)
    dsimp only [Pt.U, Pt.locs, Pt.cells, Pt.slots] at X36 l36 y36 z36 st36 hQ36
    subst l36 y36 z36
    obtain ⟨hR36, e36, rfl⟩ := hQ36
    have N36 := Fr.app N34 (Fr.nil n0)
    obtain rfl := hR36
    refine own_tr st36 ?_
    show own_E p e below _ T36 (mkF m 92 #[iv p1, iv p2, iv p3, iv p4, iv 1, rv b18, iv 1] [.int 3])
    refine own_st (fun t k => XS.iload X36.here hx rfl (hb hby at_92) rfl k) ?_
    show own_E p e below _ T36 (mkF m 94 #[iv p1, iv p2, iv p3, iv p4, iv 1, rv b18, iv 1] [.int 1, .int 3])
    refine own_st (fun t k => XS.iconst X36.here hx rfl (hb hby at_94) k) ?_
    show own_E p e below _ T36 (mkF m 95 #[iv p1, iv p2, iv p3, iv p4, iv 1, rv b18, iv 1] [.int 2, .int 1, .int 3])
    refine own_st (fun t k => XS.iadd X36.here hx rfl (hb hby at_95) rfl k) ?_
    show own_E p e below _ T36 (mkF m 96 #[iv p1, iv p2, iv p3, iv p4, iv 1, rv b18, iv 1] [.int 3, .int 3])
    refine own_st (fun t k => XS.icmpNo X36.here hx rfl (hb hby at_96) rfl (by decide) k) ?_
    show own_E p e below _ T36 (mkF m 99 #[iv p1, iv p2, iv p3, iv p4, iv 1, rv b18, iv 1] [])
    refine own_st (fun t k => XS.aload X36.here hx rfl (hb hby at_99) rfl rfl k) ?_
    show own_E p e below _ T36 (mkF m 101 #[iv p1, iv p2, iv p3, iv p4, iv 1, rv b18, iv 1] [.ref b18])
    refine own_st (fun t k => XS.iload X36.here hx rfl (hb hby at_101) rfl k) ?_
    show own_E p e below _ T36 (mkF m 103 #[iv p1, iv p2, iv p3, iv p4, iv 1, rv b18, iv 1] [.int 1, .ref b18])
    obtain ⟨cq37, kq37, q37a, q37b, q37c⟩ := isOf hZ e36 P34_0
    obtain ⟨_, _, ⟨T37, L37, k37, n37⟩, -, X37, ⟨Lc37, hQ37, l37, y37, z37⟩, st37⟩ := X36.virtualBack hx (y := own_y6) (z := own_y6) hown (mvT hZ (own_w hw 35 rfl)) (mvT hZ (own_w hw 36 rfl)) (notFace_of_selects (args := #[]) (mvT hZ (own_w hw 38 rfl))) (mvT hZ (own_w hw 38 rfl)) (mvT hZ (own_w hw 37 rfl)) (by decide) (backOf (W := 0) (own_get16_1 l Z a0 hw [] b18 b20_o0 k20_o1 p3 p1 p2 (0 : Int32) (0 : Int32) (0 : Int32) (0 : Int32) (0 : Int32) (0 : Int32) (0 : Int32) (0 : Int32) (0 : Int32) (0 : Int32) (0 : Int32) (0 : Int32) (0 : Int32) T34.heap n0 Z35 P34_1 P34_3) hZ (own_w hw 39 rfl) (own_w hw 3 rfl) (by decide) (by decide)) q37a q37c (g := (mkF m 103 #[iv p1, iv p2, iv p3, iv p4, iv 1, rv b18, iv 1] [.int 1, .ref b18])) rfl (by rw [hml]; rfl) (Steps.refl _) (argsL := [(.int (1 : Int32))]) (rest := []) (lenOf own_pd_2 rfl) rfl (by show 2 * 0 + _ ≤ _; exact Nat.le_of_eq rfl) (hb hby at_103) (fun _ _ => ⟨rfl, e36, (by decide : 2 + 0 ≤ _), (by decide : 18 + 0 ≤ _)⟩)
    dsimp only [Pt.U, Pt.locs, Pt.cells, Pt.slots] at X37 l37 y37 z37 st37 hQ37
    subst l37 y37 z37
    obtain ⟨hR37, e37, rfl⟩ := hQ37
    have N37 := Fr.app N36 (Fr.nil n0)
    obtain rfl := hR37
    refine own_tr st37 ?_
    show own_E p e below _ T37 (mkF m 106 #[iv p1, iv p2, iv p3, iv p4, iv 1, rv b18, iv 1] [.int p1])
    refine own_st (fun t k => XS.iloadN X37.here hx rfl (hb hby at_106) rfl k) ?_
    show own_E p e below _ T37 (mkF m 107 #[iv p1, iv p2, iv p3, iv p4, iv 1, rv b18, iv 1] [.int p1, .int p1])
    refine own_st (fun t k => XS.icmpNo X37.here hx rfl (hb hby at_107) rfl (teq rfl).2 k) ?_
    show own_E p e below _ T37 (mkF m 110 #[iv p1, iv p2, iv p3, iv p4, iv 1, rv b18, iv 1] [])
    refine own_st (fun t k => XS.aload X37.here hx rfl (hb hby at_110) rfl rfl k) ?_
    show own_E p e below _ T37 (mkF m 112 #[iv p1, iv p2, iv p3, iv p4, iv 1, rv b18, iv 1] [.ref b18])
    refine own_st (fun t k => XS.iload X37.here hx rfl (hb hby at_112) rfl k) ?_
    show own_E p e below _ T37 (mkF m 114 #[iv p1, iv p2, iv p3, iv p4, iv 1, rv b18, iv 1] [.int 1, .ref b18])
    refine own_st (fun t k => XS.iconst X37.here hx rfl (hb hby at_114) k) ?_
    show own_E p e below _ T37 (mkF m 115 #[iv p1, iv p2, iv p3, iv p4, iv 1, rv b18, iv 1] [.int 1, .int 1, .ref b18])
    refine own_st (fun t k => XS.iadd X37.here hx rfl (hb hby at_115) rfl k) ?_
    show own_E p e below _ T37 (mkF m 116 #[iv p1, iv p2, iv p3, iv p4, iv 1, rv b18, iv 1] [.int 2, .ref b18])
    obtain ⟨cq38, kq38, q38a, q38b, q38c⟩ := isOf hZ e37 P34_0
    obtain ⟨_, _, ⟨T38, L38, k38, n38⟩, -, X38, ⟨Lc38, hQ38, l38, y38, z38⟩, st38⟩ := X37.virtualBack hx (y := own_y6) (z := own_y6) hown (mvT hZ (own_w hw 35 rfl)) (mvT hZ (own_w hw 36 rfl)) (notFace_of_selects (args := #[]) (mvT hZ (own_w hw 38 rfl))) (mvT hZ (own_w hw 38 rfl)) (mvT hZ (own_w hw 37 rfl)) (by decide) (backOf (W := 0) (own_get16_2 l Z a0 hw [] b18 b20_o0 k20_o1 p3 p1 p2 (0 : Int32) (0 : Int32) (0 : Int32) (0 : Int32) (0 : Int32) (0 : Int32) (0 : Int32) (0 : Int32) (0 : Int32) (0 : Int32) (0 : Int32) (0 : Int32) (0 : Int32) T34.heap n0 Z35 P34_1 P34_3) hZ (own_w hw 39 rfl) (own_w hw 3 rfl) (by decide) (by decide)) q38a q38c (g := (mkF m 116 #[iv p1, iv p2, iv p3, iv p4, iv 1, rv b18, iv 1] [.int 2, .ref b18])) rfl (by rw [hml]; rfl) (Steps.refl _) (argsL := [(.int (2 : Int32))]) (rest := []) (lenOf own_pd_2 rfl) rfl (by show 2 * 0 + _ ≤ _; exact Nat.le_of_eq rfl) (hb hby at_116) (fun _ _ => ⟨rfl, e37, (by decide : 2 + 0 ≤ _), (by decide : 18 + 0 ≤ _)⟩)
    dsimp only [Pt.U, Pt.locs, Pt.cells, Pt.slots] at X38 l38 y38 z38 st38 hQ38
    subst l38 y38 z38
    obtain ⟨hR38, e38, rfl⟩ := hQ38
    have N38 := Fr.app N37 (Fr.nil n0)
    obtain rfl := hR38
    refine own_tr st38 ?_
    show own_E p e below _ T38 (mkF m 119 #[iv p1, iv p2, iv p3, iv p4, iv 1, rv b18, iv 1] [.int p2])
    refine own_st (fun t k => XS.iloadN X38.here hx rfl (hb hby at_119) rfl k) ?_
    show own_E p e below _ T38 (mkF m 120 #[iv p1, iv p2, iv p3, iv p4, iv 1, rv b18, iv 1] [.int p2, .int p2])
    refine own_st (fun t k => XS.icmpNo X38.here hx rfl (hb hby at_120) rfl (teq rfl).2 k) ?_
    show own_E p e below _ T38 (mkF m 123 #[iv p1, iv p2, iv p3, iv p4, iv 1, rv b18, iv 1] [])
    refine own_st (fun t k => XS.iconst X38.here hx rfl (hb hby at_123) k) ?_
    show own_E p e below _ T38 (mkF m 124 #[iv p1, iv p2, iv p3, iv p4, iv 1, rv b18, iv 1] [.int 1])
    refine own_st (fun t k => XS.goto X38.here hx rfl (pc0 := 124) (pc' := 128) rfl (hb hby at_124) (by decide) (by decide) k) ?_
    show own_E p e below _ T38 (mkF m 128 #[iv p1, iv p2, iv p3, iv p4, iv 1, rv b18, iv 1] [.int 1])
    refine own_st (fun t k => XS.istore X38.here hx rfl (hb hby at_128) rfl (l' := #[iv p1, iv p2, iv p3, iv p4, iv 1, rv b18, iv 1]) rfl k) ?_
    show own_E p e below _ T38 (mkF m 130 #[iv p1, iv p2, iv p3, iv p4, iv 1, rv b18, iv 1] [])
    refine own_st (fun t k => XS.iload X38.here hx rfl (hb hby at_130) rfl k) ?_
    show own_E p e below _ T38 (mkF m 132 #[iv p1, iv p2, iv p3, iv p4, iv 1, rv b18, iv 1] [.int 1])
    refine own_st (fun t k => XS.ifNo X38.here hx rfl (hb hby at_132) rfl (by decide) k) ?_
    show own_E p e below _ T38 (mkF m 135 #[iv p1, iv p2, iv p3, iv p4, iv 1, rv b18, iv 1] [])
    refine own_st (fun t k => XS.iload X38.here hx rfl (hb hby at_135) rfl k) ?_
    show own_E p e below _ T38 (mkF m 137 #[iv p1, iv p2, iv p3, iv p4, iv 1, rv b18, iv 1] [.int 1])
    refine own_st (fun t k => XS.ifNo X38.here hx rfl (hb hby at_137) rfl (by decide) k) ?_
    show own_E p e below _ T38 (mkF m 140 #[iv p1, iv p2, iv p3, iv p4, iv 1, rv b18, iv 1] [])
    refine own_st (fun t k => XS.aload X38.here hx rfl (hb hby at_140) rfl rfl k) ?_
    show own_E p e below _ T38 (mkF m 142 #[iv p1, iv p2, iv p3, iv p4, iv 1, rv b18, iv 1] [.ref b18])
    refine own_st (fun t k => XS.iload X38.here hx rfl (hb hby at_142) rfl k) ?_
    show own_E p e below _ T38 (mkF m 144 #[iv p1, iv p2, iv p3, iv p4, iv 1, rv b18, iv 1] [.int 1, .ref b18])
    refine own_st (fun t k => XS.iconst X38.here hx rfl (hb hby at_144) k) ?_
    show own_E p e below _ T38 (mkF m 145 #[iv p1, iv p2, iv p3, iv p4, iv 1, rv b18, iv 1] [.int 1, .int 1, .ref b18])
    refine own_st (fun t k => XS.isub X38.here hx rfl (hb hby at_145) rfl k) ?_
    show own_E p e below _ T38 (mkF m 146 #[iv p1, iv p2, iv p3, iv p4, iv 1, rv b18, iv 1] [.int 0, .ref b18])
    obtain ⟨cq39, kq39, q39a, q39b, q39c⟩ := isOf hZ e38 P34_0
    obtain ⟨_, _, ⟨T39, L39, k39, n39⟩, -, X39, ⟨Lc39, hQ39, l39, y39, z39⟩, st39⟩ := X38.virtualBack hx (y := own_y6) (z := own_y6) hown (mvT hZ (own_w hw 35 rfl)) (mvT hZ (own_w hw 36 rfl)) (notFace_of_selects (args := #[]) (mvT hZ (own_w hw 38 rfl))) (mvT hZ (own_w hw 38 rfl)) (mvT hZ (own_w hw 37 rfl)) (by decide) (backOf (W := 0) (own_get16_0 l Z a0 hw [] b18 b20_o0 k20_o1 p3 p1 p2 (0 : Int32) (0 : Int32) (0 : Int32) (0 : Int32) (0 : Int32) (0 : Int32) (0 : Int32) (0 : Int32) (0 : Int32) (0 : Int32) (0 : Int32) (0 : Int32) (0 : Int32) T34.heap n0 Z35 P34_1 P34_3) hZ (own_w hw 39 rfl) (own_w hw 3 rfl) (by decide) (by decide)) q39a q39c (g := (mkF m 146 #[iv p1, iv p2, iv p3, iv p4, iv 1, rv b18, iv 1] [.int 0, .ref b18])) rfl (by rw [hml]; rfl) (Steps.refl _) (argsL := [(.int (0 : Int32))]) (rest := []) (lenOf own_pd_2 rfl) rfl (by show 2 * 0 + _ ≤ _; exact Nat.le_of_eq rfl) (hb hby at_146) (fun _ _ => ⟨rfl, e38, (by decide : 2 + 0 ≤ _), (by decide : 18 + 0 ≤ _)⟩)
    dsimp only [Pt.U, Pt.locs, Pt.cells, Pt.slots] at X39 l39 y39 z39 st39 hQ39
    subst l39 y39 z39
    obtain ⟨hR39, e39, rfl⟩ := hQ39
    have N39 := Fr.app N38 (Fr.nil n0)
    obtain rfl := hR39
    refine own_tr st39 ?_
    show own_E p e below _ T39 (mkF m 149 #[iv p1, iv p2, iv p3, iv p4, iv 1, rv b18, iv 1] [.int p3])
    refine own_st (fun t k => XS.iloadN X39.here hx rfl (hb hby at_149) rfl k) ?_
    show own_E p e below _ T39 (mkF m 150 #[iv p1, iv p2, iv p3, iv p4, iv 1, rv b18, iv 1] [.int p3, .int p3])
    refine own_st (fun t k => XS.icmpNo X39.here hx rfl (hb hby at_150) rfl (teq rfl).2 k) ?_
    show own_E p e below _ T39 (mkF m 153 #[iv p1, iv p2, iv p3, iv p4, iv 1, rv b18, iv 1] [])
    refine own_st (fun t k => XS.iconst X39.here hx rfl (hb hby at_153) k) ?_
    show own_E p e below _ T39 (mkF m 154 #[iv p1, iv p2, iv p3, iv p4, iv 1, rv b18, iv 1] [.int 1])
    refine own_st (fun t k => XS.goto X39.here hx rfl (pc0 := 154) (pc' := 158) rfl (hb hby at_154) (by decide) (by decide) k) ?_
    show own_E p e below _ T39 (mkF m 158 #[iv p1, iv p2, iv p3, iv p4, iv 1, rv b18, iv 1] [.int 1])
    refine own_st (fun t k => XS.istore X39.here hx rfl (hb hby at_158) rfl (l' := #[iv p1, iv p2, iv p3, iv p4, iv 1, rv b18, iv 1]) rfl k) ?_
    show own_E p e below _ T39 (mkF m 160 #[iv p1, iv p2, iv p3, iv p4, iv 1, rv b18, iv 1] [])
    refine own_st (fun t k => XS.iload X39.here hx rfl (hb hby at_160) rfl k) ?_
    show own_E p e below _ T39 (mkF m 162 #[iv p1, iv p2, iv p3, iv p4, iv 1, rv b18, iv 1] [.int 1])
    refine own_retS X39 hx Bd.notSynchronized Bd.returns rfl (by decide) (hb hby at_162) (by decide) (by decide) ?_
    exact ⟨rfl, N39⟩
  · rw [hs1]
    show own_E p e below _ s₁ (mkF m 9 #[iv p1, iv p2, iv p3, iv p4, iv 2, .unset, .unset] [])
    obtain ⟨T40, h40, X40, e40, E40, A40, D40, -, st40⟩ := newO X0 hx hZ hown (own_w hw 1 rfl) (own_w hw 2 rfl) (own_w hw 3 rfl) e0 (g := (mkF m 9 #[iv p1, iv p2, iv p3, iv p4, iv 2, .unset, .unset] [])) rfl (hb hby at_9) (by decide) (by decide)
    obtain ⟨b40, g40⟩ : ∃ z, z = h0.size := ⟨_, rfl⟩
    rw [← g40] at A40 D40 st40
    have g_b40 : n0 ≤ b40 := Nat.le_trans Z0 (Nat.le_of_eq g40.symm)
    have Z41 := Nat.le_trans Z0 E40.1
    have F_values_b40 : Fld Z h40 b40 "com/example/kalchas/kalchas/IntList" "values" "[I" .null := D40 (Or.inl (own_w hw 12 rfl)) (ty := (.array .int)) (by decide)
    have F_size_b40 : Fld Z h40 b40 "com/example/kalchas/kalchas/IntList" "size" "I" (.int (0 : Int32)) := D40 (Or.inl (own_w hw 19 rfl)) (ty := .int) (by decide)
    refine own_st st40 ?_
    show own_E p e below _ T40 (mkF m 12 #[iv p1, iv p2, iv p3, iv p4, iv 2, .unset, .unset] [.ref b40])
    refine own_st (fun t k => XS.dup X40.here hx rfl (hb hby at_12) rfl rfl k) ?_
    show own_E p e below _ T40 (mkF m 13 #[iv p1, iv p2, iv p3, iv p4, iv 2, .unset, .unset] [.ref b40, .ref b40])
    obtain ⟨_, _, ⟨T42, L42, k42, n42⟩, -, X42, ⟨Lc42, hQ42, l42, y42, z42⟩, st42⟩ := X40.specialBack hx (y := own_y2) rfl hown (mvT hZ (own_w hw 4 rfl)) (mvT hZ (own_w hw 5 rfl)) (mvT hZ (own_w hw 6 rfl)) (by decide) (backOf (W := 1) (own_init l Z a0 hw [] b40 h40 n0 Z41 A40 F_values_b40 F_size_b40 g_b40) hZ (own_w hw 6 rfl) (own_w hw 3 rfl) (by decide) (by decide)) (g := (mkF m 13 #[iv p1, iv p2, iv p3, iv p4, iv 2, .unset, .unset] [.ref b40, .ref b40])) rfl (by rw [hml]; rfl) (Steps.refl _) (a := b40) (argsL := []) (rest := [(.ref b40)]) (lenOf own_pd_1 rfl) rfl (by show 2 * 0 + _ ≤ _; exact Nat.le_of_eq rfl) (hb hby at_13) (fun _ _ => ⟨rfl, e40, (by decide : 1 + 1 ≤ _), (by decide : 2 + 16 ≤ _)⟩)
    dsimp only [Pt.U, Pt.locs, Pt.cells, Pt.slots] at X42 l42 y42 z42 st42 hQ42
    subst l42 y42 z42
    obtain ⟨b42_o0, k42_o1, rfl, Nq42, Kq42, sz42_0, P42_0, P42_1, P42_2, P42_3⟩ := hQ42
    have N42 := Fr.app (Fr.nil n0) Nq42
    have ne_b40_b42_o0 : b40 ≠ b42_o0 := Nat.ne_of_lt (Nat.lt_of_lt_of_le A40.lt sz42_0)
    have g_b42_o0 : n0 ≤ b42_o0 := Nat.le_trans Z41 sz42_0
    have e42 : T42.heap = T42.heap := rfl
    have Z43 := Nat.le_trans Z41 Kq42.1
    refine own_tr st42 ?_
    show own_E p e below _ T42 (mkF m 16 #[iv p1, iv p2, iv p3, iv p4, iv 2, .unset, .unset] [.ref b40])
    refine own_st (fun t k => XS.astore X42.here hx rfl (hb hby at_16) rfl rfl (l' := #[iv p1, iv p2, iv p3, iv p4, iv 2, rv b40, .unset]) rfl k) ?_
    show own_E p e below _ T42 (mkF m 18 #[iv p1, iv p2, iv p3, iv p4, iv 2, rv b40, .unset] [])
    refine own_st (fun t k => XS.aload X42.here hx rfl (hb hby at_18) rfl rfl k) ?_
    show own_E p e below _ T42 (mkF m 20 #[iv p1, iv p2, iv p3, iv p4, iv 2, rv b40, .unset] [.ref b40])
    refine own_st (fun t k => XS.iload X42.here hx rfl (hb hby at_20) rfl k) ?_
    show own_E p e below _ T42 (mkF m 22 #[iv p1, iv p2, iv p3, iv p4, iv 2, rv b40, .unset] [.int 2, .ref b40])
    obtain ⟨cq44, kq44, q44a, q44b, q44c⟩ := isOf hZ e42 P42_0
    obtain ⟨_, _, ⟨T44, L44, k44, n44⟩, -, X44, ⟨Lc44, hQ44, l44, y44, z44⟩, st44⟩ := X42.virtualBack hx (y := own_y3) (z := own_y3) hown (mvT hZ (own_w hw 13 rfl)) (mvT hZ (own_w hw 14 rfl)) (notFace_of_selects (args := #[]) (mvT hZ (own_w hw 16 rfl))) (mvT hZ (own_w hw 16 rfl)) (mvT hZ (own_w hw 15 rfl)) (by decide) (backOf (W := 0) (own_trunc l Z a0 hw [] b40 b42_o0 (2 : Int32) (0 : Int32) T42.heap n0 Z43 P42_0 P42_1 P42_2 g_b40) hZ (own_w hw 17 rfl) (own_w hw 3 rfl) (by decide) (by decide)) q44a q44c (g := (mkF m 22 #[iv p1, iv p2, iv p3, iv p4, iv 2, rv b40, .unset] [.int 2, .ref b40])) rfl (by rw [hml]; rfl) (Steps.refl _) (argsL := [(.int (2 : Int32))]) (rest := []) (lenOf own_pd_3 rfl) rfl (by show 2 * 0 + _ ≤ _; exact Nat.le_of_eq rfl) (hb hby at_22) (fun _ _ => ⟨rfl, e42, (by decide : 2 + 0 ≤ _), (by decide : 18 + 0 ≤ _)⟩)
    dsimp only [Pt.U, Pt.locs, Pt.cells, Pt.slots] at X44 l44 y44 z44 st44 hQ44
    subst l44 y44 z44
    obtain ⟨rfl, Nq44, Kq44, P44_0, P44_1, P44_2⟩ := hQ44
    have N44 := Fr.app N42 Nq44
    have e44 : T44.heap = T44.heap := rfl
    have Z45 := Nat.le_trans Z43 Kq44.1
    refine own_tr st44 ?_
    show own_E p e below _ T44 (mkF m 25 #[iv p1, iv p2, iv p3, iv p4, iv 2, rv b40, .unset] [])
    refine own_st (fun t k => XS.iload X44.here hx rfl (hb hby at_25) rfl k) ?_
    show own_E p e below _ T44 (mkF m 27 #[iv p1, iv p2, iv p3, iv p4, iv 2, rv b40, .unset] [.int 2])
    refine own_st (fun t k => XS.ifNo X44.here hx rfl (hb hby at_27) rfl (by decide) k) ?_
    show own_E p e below _ T44 (mkF m 30 #[iv p1, iv p2, iv p3, iv p4, iv 2, rv b40, .unset] [])
    refine own_st (fun t k => XS.aload X44.here hx rfl (hb hby at_30) rfl rfl k) ?_
    show own_E p e below _ T44 (mkF m 32 #[iv p1, iv p2, iv p3, iv p4, iv 2, rv b40, .unset] [.ref b40])
    refine own_st (fun t k => XS.iload X44.here hx rfl (hb hby at_32) rfl k) ?_
    show own_E p e below _ T44 (mkF m 34 #[iv p1, iv p2, iv p3, iv p4, iv 2, rv b40, .unset] [.int 2, .ref b40])
    refine own_st (fun t k => XS.iconst X44.here hx rfl (hb hby at_34) k) ?_
    show own_E p e below _ T44 (mkF m 35 #[iv p1, iv p2, iv p3, iv p4, iv 2, rv b40, .unset] [.int 1, .int 2, .ref b40])
    refine own_st (fun t k => XS.isub X44.here hx rfl (hb hby at_35) rfl k) ?_
    show own_E p e below _ T44 (mkF m 36 #[iv p1, iv p2, iv p3, iv p4, iv 2, rv b40, .unset] [.int 1, .ref b40])
    refine own_st (fun t k => XS.iloadN X44.here hx rfl (hb hby at_36) rfl k) ?_
    show own_E p e below _ T44 (mkF m 37 #[iv p1, iv p2, iv p3, iv p4, iv 2, rv b40, .unset] [.int p3, .int 1, .ref b40])
    have B46 := (P42_3.keep Kq44 (ninS (Ne.symm ne_b40_b42_o0) nin0))
    obtain ⟨cq47, kq47, q47a, q47b, q47c⟩ := isOf hZ e44 P44_0
    obtain ⟨_, _, ⟨T47, L47, k47, n47⟩, -, X47, ⟨Lc47, hQ47, l47, y47, z47⟩, st47⟩ := X44.virtualBack hx (y := own_y4) (z := own_y4) hown (mvT hZ (own_w hw 20 rfl)) (mvT hZ (own_w hw 21 rfl)) (notFace_of_selects (args := #[]) (mvT hZ (own_w hw 23 rfl))) (mvT hZ (own_w hw 23 rfl)) (mvT hZ (own_w hw 22 rfl)) (by decide) (backOf (W := 0) (own_set1 l Z a0 hw [] b40 b42_o0 k42_o1 p3 (0 : Int32) (0 : Int32) (0 : Int32) (0 : Int32) (0 : Int32) (0 : Int32) (0 : Int32) (0 : Int32) (0 : Int32) (0 : Int32) (0 : Int32) (0 : Int32) (0 : Int32) (0 : Int32) (0 : Int32) (0 : Int32) T44.heap n0 Z45 P44_1 B46 ne_b40_b42_o0 g_b42_o0) hZ (own_w hw 24 rfl) (own_w hw 3 rfl) (by decide) (by decide)) q47a q47c (g := (mkF m 37 #[iv p1, iv p2, iv p3, iv p4, iv 2, rv b40, .unset] [.int p3, .int 1, .ref b40])) rfl (by rw [hml]; rfl) (Steps.refl _) (argsL := [(.int (1 : Int32)), (.int p3)]) (rest := []) (lenOf own_pd_5 rfl) rfl (by show 2 * 0 + _ ≤ _; exact Nat.le_of_eq rfl) (hb hby at_37) (fun _ _ => ⟨rfl, e44, (by decide : 2 + 0 ≤ _), (by decide : 18 + 0 ≤ _)⟩)
    dsimp only [Pt.U, Pt.locs, Pt.cells, Pt.slots] at X47 l47 y47 z47 st47 hQ47
    subst l47 y47 z47
    obtain ⟨rfl, Nq47, Kq47, P47_0⟩ := hQ47
    have N47 := Fr.app N44 Nq47
    have e47 : T47.heap = T47.heap := rfl
    have Z48 := Nat.le_trans Z45 Kq47.1
    refine own_tr st47 ?_
    show own_E p e below _ T47 (mkF m 40 #[iv p1, iv p2, iv p3, iv p4, iv 2, rv b40, .unset] [])
    refine own_st (fun t k => XS.aload X47.here hx rfl (hb hby at_40) rfl rfl k) ?_
    show own_E p e below _ T47 (mkF m 42 #[iv p1, iv p2, iv p3, iv p4, iv 2, rv b40, .unset] [.ref b40])
    refine own_st (fun t k => XS.iloadN X47.here hx rfl (hb hby at_42) rfl k) ?_
    show own_E p e below _ T47 (mkF m 43 #[iv p1, iv p2, iv p3, iv p4, iv 2, rv b40, .unset] [.int p1, .ref b40])
    have B49 := (P44_0.keep Kq47)
    have B50 := (P44_1.keep Kq47 (ninS ne_b40_b42_o0 nin0))
    have B51 := (P44_2.keep Kq47 (ninS ne_b40_b42_o0 nin0))
    obtain ⟨cq52, kq52, q52a, q52b, q52c⟩ := isOf hZ e47 B49
    obtain ⟨_, _, ⟨T52, L52, k52, n52⟩, -, X52, ⟨Lc52, hQ52, l52, y52, z52⟩, st52⟩ := X47.virtualBack hx (y := own_y5) (z := own_y5) hown (mvT hZ (own_w hw 25 rfl)) (mvT hZ (own_w hw 26 rfl)) (notFace_of_selects (args := #[]) (mvT hZ (own_w hw 28 rfl))) (mvT hZ (own_w hw 28 rfl)) (mvT hZ (own_w hw 27 rfl)) (by decide) (backOf (W := 0) (own_add2 l Z a0 hw [] b40 b42_o0 k42_o1 p1 (0 : Int32) p3 (0 : Int32) (0 : Int32) (0 : Int32) (0 : Int32) (0 : Int32) (0 : Int32) (0 : Int32) (0 : Int32) (0 : Int32) (0 : Int32) (0 : Int32) (0 : Int32) (0 : Int32) (0 : Int32) T47.heap n0 Z48 B49 B50 B51 P47_0 ne_b40_b42_o0 g_b40 g_b42_o0) hZ (own_w hw 29 rfl) (own_w hw 3 rfl) (by decide) (by decide)) q52a q52c (g := (mkF m 43 #[iv p1, iv p2, iv p3, iv p4, iv 2, rv b40, .unset] [.int p1, .ref b40])) rfl (by rw [hml]; rfl) (Steps.refl _) (argsL := [(.int p1)]) (rest := []) (lenOf own_pd_3 rfl) rfl (by show 2 * 0 + _ ≤ _; exact Nat.le_of_eq rfl) (hb hby at_43) (fun _ _ => ⟨rfl, e47, (by decide : 2 + 0 ≤ _), (by decide : 18 + 0 ≤ _)⟩)
    dsimp only [Pt.U, Pt.locs, Pt.cells, Pt.slots] at X52 l52 y52 z52 st52 hQ52
    subst l52 y52 z52
    obtain ⟨rfl, Nq52, Kq52, P52_0, P52_1, P52_2, P52_3⟩ := hQ52
    have N52 := Fr.app N47 Nq52
    have e52 : T52.heap = T52.heap := rfl
    have Z53 := Nat.le_trans Z48 Kq52.1
    refine own_tr st52 ?_
    show own_E p e below _ T52 (mkF m 46 #[iv p1, iv p2, iv p3, iv p4, iv 2, rv b40, .unset] [])
    refine own_st (fun t k => XS.aload X52.here hx rfl (hb hby at_46) rfl rfl k) ?_
    show own_E p e below _ T52 (mkF m 48 #[iv p1, iv p2, iv p3, iv p4, iv 2, rv b40, .unset] [.ref b40])
    obtain ⟨cq54, kq54, q54a, q54b, q54c⟩ := isOf hZ e52 P52_0
    obtain ⟨_, _, ⟨T54, L54, k54, n54⟩, -, X54, ⟨Lc54, hQ54, l54, y54, z54⟩, st54⟩ := X52.virtualBack hx (y := own_y7) (z := own_y7) hown (mvT hZ (own_w hw 30 rfl)) (mvT hZ (own_w hw 31 rfl)) (notFace_of_selects (args := #[]) (mvT hZ (own_w hw 33 rfl))) (mvT hZ (own_w hw 33 rfl)) (mvT hZ (own_w hw 32 rfl)) (by decide) (backOf (W := 0) (own_size l Z a0 hw [] b40 (3 : Int32) T52.heap n0 Z53 P52_2) hZ (own_w hw 34 rfl) (own_w hw 3 rfl) (by decide) (by decide)) q54a q54c (g := (mkF m 48 #[iv p1, iv p2, iv p3, iv p4, iv 2, rv b40, .unset] [.ref b40])) rfl (by rw [hml]; rfl) (Steps.refl _) (argsL := []) (rest := []) (lenOf own_pd_0 rfl) rfl (by show 2 * 0 + _ ≤ _; exact Nat.le_of_eq rfl) (hb hby at_48) (fun _ _ => ⟨rfl, e52, (by decide : 2 + 0 ≤ _), (by decide : 18 + 0 ≤ _)⟩)
    dsimp only [Pt.U, Pt.locs, Pt.cells, Pt.slots] at X54 l54 y54 z54 st54 hQ54
    subst l54 y54 z54
    obtain ⟨hR54, e54, rfl⟩ := hQ54
    have N54 := Fr.app N52 (Fr.nil n0)
    obtain rfl := hR54
    refine own_tr st54 ?_
    show own_E p e below _ T54 (mkF m 51 #[iv p1, iv p2, iv p3, iv p4, iv 2, rv b40, .unset] [.int 3])
    refine own_st (fun t k => XS.iload X54.here hx rfl (hb hby at_51) rfl k) ?_
    show own_E p e below _ T54 (mkF m 53 #[iv p1, iv p2, iv p3, iv p4, iv 2, rv b40, .unset] [.int 2, .int 3])
    refine own_st (fun t k => XS.iconst X54.here hx rfl (hb hby at_53) k) ?_
    show own_E p e below _ T54 (mkF m 54 #[iv p1, iv p2, iv p3, iv p4, iv 2, rv b40, .unset] [.int 1, .int 2, .int 3])
    refine own_st (fun t k => XS.iadd X54.here hx rfl (hb hby at_54) rfl k) ?_
    show own_E p e below _ T54 (mkF m 55 #[iv p1, iv p2, iv p3, iv p4, iv 2, rv b40, .unset] [.int 3, .int 3])
    refine own_st (fun t k => XS.icmpNo X54.here hx rfl (hb hby at_55) rfl (by decide) k) ?_
    show own_E p e below _ T54 (mkF m 58 #[iv p1, iv p2, iv p3, iv p4, iv 2, rv b40, .unset] [])
    refine own_st (fun t k => XS.aload X54.here hx rfl (hb hby at_58) rfl rfl k) ?_
    show own_E p e below _ T54 (mkF m 60 #[iv p1, iv p2, iv p3, iv p4, iv 2, rv b40, .unset] [.ref b40])
    refine own_st (fun t k => XS.iload X54.here hx rfl (hb hby at_60) rfl k) ?_
    show own_E p e below _ T54 (mkF m 62 #[iv p1, iv p2, iv p3, iv p4, iv 2, rv b40, .unset] [.int 2, .ref b40])
    obtain ⟨cq55, kq55, q55a, q55b, q55c⟩ := isOf hZ e54 P52_0
    obtain ⟨_, _, ⟨T55, L55, k55, n55⟩, -, X55, ⟨Lc55, hQ55, l55, y55, z55⟩, st55⟩ := X54.virtualBack hx (y := own_y6) (z := own_y6) hown (mvT hZ (own_w hw 35 rfl)) (mvT hZ (own_w hw 36 rfl)) (notFace_of_selects (args := #[]) (mvT hZ (own_w hw 38 rfl))) (mvT hZ (own_w hw 38 rfl)) (mvT hZ (own_w hw 37 rfl)) (by decide) (backOf (W := 0) (own_get16_2 l Z a0 hw [] b40 b42_o0 k42_o1 (0 : Int32) p3 p1 (0 : Int32) (0 : Int32) (0 : Int32) (0 : Int32) (0 : Int32) (0 : Int32) (0 : Int32) (0 : Int32) (0 : Int32) (0 : Int32) (0 : Int32) (0 : Int32) (0 : Int32) T52.heap n0 Z53 P52_1 P52_3) hZ (own_w hw 39 rfl) (own_w hw 3 rfl) (by decide) (by decide)) q55a q55c (g := (mkF m 62 #[iv p1, iv p2, iv p3, iv p4, iv 2, rv b40, .unset] [.int 2, .ref b40])) rfl (by rw [hml]; rfl) (Steps.refl _) (argsL := [(.int (2 : Int32))]) (rest := []) (lenOf own_pd_2 rfl) rfl (by show 2 * 0 + _ ≤ _; exact Nat.le_of_eq rfl) (hb hby at_62) (fun _ _ => ⟨rfl, e54, (by decide : 2 + 0 ≤ _), (by decide : 18 + 0 ≤ _)⟩)
    dsimp only [Pt.U, Pt.locs, Pt.cells, Pt.slots] at X55 l55 y55 z55 st55 hQ55
    subst l55 y55 z55
    obtain ⟨hR55, e55, rfl⟩ := hQ55
    have N55 := Fr.app N54 (Fr.nil n0)
    obtain rfl := hR55
    refine own_tr st55 ?_
    show own_E p e below _ T55 (mkF m 65 #[iv p1, iv p2, iv p3, iv p4, iv 2, rv b40, .unset] [.int p1])
    refine own_st (fun t k => XS.iloadN X55.here hx rfl (hb hby at_65) rfl k) ?_
    show own_E p e below _ T55 (mkF m 66 #[iv p1, iv p2, iv p3, iv p4, iv 2, rv b40, .unset] [.int p1, .int p1])
    refine own_st (fun t k => XS.icmpNo X55.here hx rfl (hb hby at_66) rfl (teq rfl).2 k) ?_
    show own_E p e below _ T55 (mkF m 69 #[iv p1, iv p2, iv p3, iv p4, iv 2, rv b40, .unset] [])
    refine own_st (fun t k => XS.iconst X55.here hx rfl (hb hby at_69) k) ?_
    show own_E p e below _ T55 (mkF m 70 #[iv p1, iv p2, iv p3, iv p4, iv 2, rv b40, .unset] [.int 1])
    refine own_st (fun t k => XS.goto X55.here hx rfl (pc0 := 70) (pc' := 74) rfl (hb hby at_70) (by decide) (by decide) k) ?_
    show own_E p e below _ T55 (mkF m 74 #[iv p1, iv p2, iv p3, iv p4, iv 2, rv b40, .unset] [.int 1])
    refine own_st (fun t k => XS.istore X55.here hx rfl (hb hby at_74) rfl (l' := #[iv p1, iv p2, iv p3, iv p4, iv 2, rv b40, iv 1]) rfl k) ?_
    show own_E p e below _ T55 (mkF m 76 #[iv p1, iv p2, iv p3, iv p4, iv 2, rv b40, iv 1] [])
    refine own_st (fun t k => XS.aload X55.here hx rfl (hb hby at_76) rfl rfl k) ?_
    show own_E p e below _ T55 (mkF m 78 #[iv p1, iv p2, iv p3, iv p4, iv 2, rv b40, iv 1] [.ref b40])
    refine own_st (fun t k => XS.iloadN X55.here hx rfl (hb hby at_78) rfl k) ?_
    show own_E p e below _ T55 (mkF m 79 #[iv p1, iv p2, iv p3, iv p4, iv 2, rv b40, iv 1] [.int p2, .ref b40])
    obtain ⟨cq56, kq56, q56a, q56b, q56c⟩ := isOf hZ e55 P52_0
    obtain ⟨_, _, ⟨T56, L56, k56, n56⟩, -, X56, ⟨Lc56, hQ56, l56, y56, z56⟩, st56⟩ := X55.virtualBack hx (y := own_y5) (z := own_y5) hown (mvT hZ (own_w hw 25 rfl)) (mvT hZ (own_w hw 26 rfl)) (notFace_of_selects (args := #[]) (mvT hZ (own_w hw 28 rfl))) (mvT hZ (own_w hw 28 rfl)) (mvT hZ (own_w hw 27 rfl)) (by decide) (backOf (W := 0) (own_add3 l Z a0 hw [] b40 b42_o0 k42_o1 p2 (0 : Int32) p3 p1 (0 : Int32) (0 : Int32) (0 : Int32) (0 : Int32) (0 : Int32) (0 : Int32) (0 : Int32) (0 : Int32) (0 : Int32) (0 : Int32) (0 : Int32) (0 : Int32) (0 : Int32) T52.heap n0 Z53 P52_0 P52_1 P52_2 P52_3 ne_b40_b42_o0 g_b40 g_b42_o0) hZ (own_w hw 29 rfl) (own_w hw 3 rfl) (by decide) (by decide)) q56a q56c (g := (mkF m 79 #[iv p1, iv p2, iv p3, iv p4, iv 2, rv b40, iv 1] [.int p2, .ref b40])) rfl (by rw [hml]; rfl) (Steps.refl _) (argsL := [(.int p2)]) (rest := []) (lenOf own_pd_3 rfl) rfl (by show 2 * 0 + _ ≤ _; exact Nat.le_of_eq rfl) (hb hby at_79) (fun _ _ => ⟨rfl, e55, (by decide : 2 + 0 ≤ _), (by decide : 18 + 0 ≤ _)⟩)
    dsimp only [Pt.U, Pt.locs, Pt.cells, Pt.slots] at X56 l56 y56 z56 st56 hQ56
    subst l56 y56 z56
    obtain ⟨rfl, Nq56, Kq56, P56_0, P56_1, P56_2, P56_3⟩ := hQ56
    have N56 := Fr.app N55 Nq56
    have e56 : T56.heap = T56.heap := rfl
    have Z57 := Nat.le_trans Z53 Kq56.1
    refine own_tr st56 ?_
    show own_E p e below _ T56 (mkF m 82 #[iv p1, iv p2, iv p3, iv p4, iv 2, rv b40, iv 1] [])
    refine own_st (fun t k => XS.iload X56.here hx rfl (hb hby at_82) rfl k) ?_
    show own_E p e below _ T56 (mkF m 84 #[iv p1, iv p2, iv p3, iv p4, iv 2, rv b40, iv 1] [.int 1])
    refine own_st (fun t k => XS.ifNo X56.here hx rfl (hb hby at_84) rfl (by decide) k) ?_
    show own_E p e below _ T56 (mkF m 87 #[iv p1, iv p2, iv p3, iv p4, iv 2, rv b40, iv 1] [])
    refine own_st (fun t k => XS.aload X56.here hx rfl (hb hby at_87) rfl rfl k) ?_
    show own_E p e below _ T56 (mkF m 89 #[iv p1, iv p2, iv p3, iv p4, iv 2, rv b40, iv 1] [.ref b40])
    obtain ⟨cq58, kq58, q58a, q58b, q58c⟩ := isOf hZ e56 P56_0
    obtain ⟨_, _, ⟨T58, L58, k58, n58⟩, -, X58, ⟨Lc58, hQ58, l58, y58, z58⟩, st58⟩ := X56.virtualBack hx (y := own_y7) (z := own_y7) hown (mvT hZ (own_w hw 30 rfl)) (mvT hZ (own_w hw 31 rfl)) (notFace_of_selects (args := #[]) (mvT hZ (own_w hw 33 rfl))) (mvT hZ (own_w hw 33 rfl)) (mvT hZ (own_w hw 32 rfl)) (by decide) (backOf (W := 0) (own_size l Z a0 hw [] b40 (4 : Int32) T56.heap n0 Z57 P56_2) hZ (own_w hw 34 rfl) (own_w hw 3 rfl) (by decide) (by decide)) q58a q58c (g := (mkF m 89 #[iv p1, iv p2, iv p3, iv p4, iv 2, rv b40, iv 1] [.ref b40])) rfl (by rw [hml]; rfl) (Steps.refl _) (argsL := []) (rest := []) (lenOf own_pd_0 rfl) rfl (by show 2 * 0 + _ ≤ _; exact Nat.le_of_eq rfl) (hb hby at_89) (fun _ _ => ⟨rfl, e56, (by decide : 2 + 0 ≤ _), (by decide : 18 + 0 ≤ _)⟩)
    dsimp only [Pt.U, Pt.locs, Pt.cells, Pt.slots] at X58 l58 y58 z58 st58 hQ58
    subst l58 y58 z58
    obtain ⟨hR58, e58, rfl⟩ := hQ58
    have N58 := Fr.app N56 (Fr.nil n0)
    obtain rfl := hR58
    refine own_tr st58 ?_
    show own_E p e below _ T58 (mkF m 92 #[iv p1, iv p2, iv p3, iv p4, iv 2, rv b40, iv 1] [.int 4])
    refine own_st (fun t k => XS.iload X58.here hx rfl (hb hby at_92) rfl k) ?_
    show own_E p e below _ T58 (mkF m 94 #[iv p1, iv p2, iv p3, iv p4, iv 2, rv b40, iv 1] [.int 2, .int 4])
    refine own_st (fun t k => XS.iconst X58.here hx rfl (hb hby at_94) k) ?_
    show own_E p e below _ T58 (mkF m 95 #[iv p1, iv p2, iv p3, iv p4, iv 2, rv b40, iv 1] [.int 2, .int 2, .int 4])
    refine own_st (fun t k => XS.iadd X58.here hx rfl (hb hby at_95) rfl k) ?_
    show own_E p e below _ T58 (mkF m 96 #[iv p1, iv p2, iv p3, iv p4, iv 2, rv b40, iv 1] [.int 4, .int 4])
    refine own_st (fun t k => XS.icmpNo X58.here hx rfl (hb hby at_96) rfl (by decide) k) ?_
    show own_E p e below _ T58 (mkF m 99 #[iv p1, iv p2, iv p3, iv p4, iv 2, rv b40, iv 1] [])
    refine own_st (fun t k => XS.aload X58.here hx rfl (hb hby at_99) rfl rfl k) ?_
    show own_E p e below _ T58 (mkF m 101 #[iv p1, iv p2, iv p3, iv p4, iv 2, rv b40, iv 1] [.ref b40])
    refine own_st (fun t k => XS.iload X58.here hx rfl (hb hby at_101) rfl k) ?_
    show own_E p e below _ T58 (mkF m 103 #[iv p1, iv p2, iv p3, iv p4, iv 2, rv b40, iv 1] [.int 2, .ref b40])
    obtain ⟨cq59, kq59, q59a, q59b, q59c⟩ := isOf hZ e58 P56_0
    obtain ⟨_, _, ⟨T59, L59, k59, n59⟩, -, X59, ⟨Lc59, hQ59, l59, y59, z59⟩, st59⟩ := X58.virtualBack hx (y := own_y6) (z := own_y6) hown (mvT hZ (own_w hw 35 rfl)) (mvT hZ (own_w hw 36 rfl)) (notFace_of_selects (args := #[]) (mvT hZ (own_w hw 38 rfl))) (mvT hZ (own_w hw 38 rfl)) (mvT hZ (own_w hw 37 rfl)) (by decide) (backOf (W := 0) (own_get16_2 l Z a0 hw [] b40 b42_o0 k42_o1 (0 : Int32) p3 p1 p2 (0 : Int32) (0 : Int32) (0 : Int32) (0 : Int32) (0 : Int32) (0 : Int32) (0 : Int32) (0 : Int32) (0 : Int32) (0 : Int32) (0 : Int32) (0 : Int32) T56.heap n0 Z57 P56_1 P56_3) hZ (own_w hw 39 rfl) (own_w hw 3 rfl) (by decide) (by decide)) q59a q59c (g := (mkF m 103 #[iv p1, iv p2, iv p3, iv p4, iv 2, rv b40, iv 1] [.int 2, .ref b40])) rfl (by rw [hml]; rfl) (Steps.refl _) (argsL := [(.int (2 : Int32))]) (rest := []) (lenOf own_pd_2 rfl) rfl (by show 2 * 0 + _ ≤ _; exact Nat.le_of_eq rfl) (hb hby at_103) (fun _ _ => ⟨rfl, e58, (by decide : 2 + 0 ≤ _), (by decide : 18 + 0 ≤ _)⟩)
    dsimp only [Pt.U, Pt.locs, Pt.cells, Pt.slots] at X59 l59 y59 z59 st59 hQ59
    subst l59 y59 z59
    obtain ⟨hR59, e59, rfl⟩ := hQ59
    have N59 := Fr.app N58 (Fr.nil n0)
    obtain rfl := hR59
    refine own_tr st59 ?_
    show own_E p e below _ T59 (mkF m 106 #[iv p1, iv p2, iv p3, iv p4, iv 2, rv b40, iv 1] [.int p1])
    refine own_st (fun t k => XS.iloadN X59.here hx rfl (hb hby at_106) rfl k) ?_
    show own_E p e below _ T59 (mkF m 107 #[iv p1, iv p2, iv p3, iv p4, iv 2, rv b40, iv 1] [.int p1, .int p1])
    refine own_st (fun t k => XS.icmpNo X59.here hx rfl (hb hby at_107) rfl (teq rfl).2 k) ?_
    show own_E p e below _ T59 (mkF m 110 #[iv p1, iv p2, iv p3, iv p4, iv 2, rv b40, iv 1] [])
    refine own_st (fun t k => XS.aload X59.here hx rfl (hb hby at_110) rfl rfl k) ?_
    show own_E p e below _ T59 (mkF m 112 #[iv p1, iv p2, iv p3, iv p4, iv 2, rv b40, iv 1] [.ref b40])
    refine own_st (fun t k => XS.iload X59.here hx rfl (hb hby at_112) rfl k) ?_
    show own_E p e below _ T59 (mkF m 114 #[iv p1, iv p2, iv p3, iv p4, iv 2, rv b40, iv 1] [.int 2, .ref b40])
    refine own_st (fun t k => XS.iconst X59.here hx rfl (hb hby at_114) k) ?_
    show own_E p e below _ T59 (mkF m 115 #[iv p1, iv p2, iv p3, iv p4, iv 2, rv b40, iv 1] [.int 1, .int 2, .ref b40])
    refine own_st (fun t k => XS.iadd X59.here hx rfl (hb hby at_115) rfl k) ?_
    show own_E p e below _ T59 (mkF m 116 #[iv p1, iv p2, iv p3, iv p4, iv 2, rv b40, iv 1] [.int 3, .ref b40])
    obtain ⟨cq60, kq60, q60a, q60b, q60c⟩ := isOf hZ e59 P56_0
    obtain ⟨_, _, ⟨T60, L60, k60, n60⟩, -, X60, ⟨Lc60, hQ60, l60, y60, z60⟩, st60⟩ := X59.virtualBack hx (y := own_y6) (z := own_y6) hown (mvT hZ (own_w hw 35 rfl)) (mvT hZ (own_w hw 36 rfl)) (notFace_of_selects (args := #[]) (mvT hZ (own_w hw 38 rfl))) (mvT hZ (own_w hw 38 rfl)) (mvT hZ (own_w hw 37 rfl)) (by decide) (backOf (W := 0) (own_get16_3 l Z a0 hw [] b40 b42_o0 k42_o1 (0 : Int32) p3 p1 p2 (0 : Int32) (0 : Int32) (0 : Int32) (0 : Int32) (0 : Int32) (0 : Int32) (0 : Int32) (0 : Int32) (0 : Int32) (0 : Int32) (0 : Int32) (0 : Int32) T56.heap n0 Z57 P56_1 P56_3) hZ (own_w hw 39 rfl) (own_w hw 3 rfl) (by decide) (by decide)) q60a q60c (g := (mkF m 116 #[iv p1, iv p2, iv p3, iv p4, iv 2, rv b40, iv 1] [.int 3, .ref b40])) rfl (by rw [hml]; rfl) (Steps.refl _) (argsL := [(.int (3 : Int32))]) (rest := []) (lenOf own_pd_2 rfl) rfl (by show 2 * 0 + _ ≤ _; exact Nat.le_of_eq rfl) (hb hby at_116) (fun _ _ => ⟨rfl, e59, (by decide : 2 + 0 ≤ _), (by decide : 18 + 0 ≤ _)⟩)
    dsimp only [Pt.U, Pt.locs, Pt.cells, Pt.slots] at X60 l60 y60 z60 st60 hQ60
    subst l60 y60 z60
    obtain ⟨hR60, e60, rfl⟩ := hQ60
    have N60 := Fr.app N59 (Fr.nil n0)
    obtain rfl := hR60
    refine own_tr st60 ?_
    show own_E p e below _ T60 (mkF m 119 #[iv p1, iv p2, iv p3, iv p4, iv 2, rv b40, iv 1] [.int p2])
    refine own_st (fun t k => XS.iloadN X60.here hx rfl (hb hby at_119) rfl k) ?_
    show own_E p e below _ T60 (mkF m 120 #[iv p1, iv p2, iv p3, iv p4, iv 2, rv b40, iv 1] [.int p2, .int p2])
    refine own_st (fun t k => XS.icmpNo X60.here hx rfl (hb hby at_120) rfl (teq rfl).2 k) ?_
    show own_E p e below _ T60 (mkF m 123 #[iv p1, iv p2, iv p3, iv p4, iv 2, rv b40, iv 1] [])
    refine own_st (fun t k => XS.iconst X60.here hx rfl (hb hby at_123) k) ?_
    show own_E p e below _ T60 (mkF m 124 #[iv p1, iv p2, iv p3, iv p4, iv 2, rv b40, iv 1] [.int 1])
    refine own_st (fun t k => XS.goto X60.here hx rfl (pc0 := 124) (pc' := 128) rfl (hb hby at_124) (by decide) (by decide) k) ?_
    show own_E p e below _ T60 (mkF m 128 #[iv p1, iv p2, iv p3, iv p4, iv 2, rv b40, iv 1] [.int 1])
    refine own_st (fun t k => XS.istore X60.here hx rfl (hb hby at_128) rfl (l' := #[iv p1, iv p2, iv p3, iv p4, iv 2, rv b40, iv 1]) rfl k) ?_
    show own_E p e below _ T60 (mkF m 130 #[iv p1, iv p2, iv p3, iv p4, iv 2, rv b40, iv 1] [])
    refine own_st (fun t k => XS.iload X60.here hx rfl (hb hby at_130) rfl k) ?_
    show own_E p e below _ T60 (mkF m 132 #[iv p1, iv p2, iv p3, iv p4, iv 2, rv b40, iv 1] [.int 2])
    refine own_st (fun t k => XS.ifNo X60.here hx rfl (hb hby at_132) rfl (by decide) k) ?_
    show own_E p e below _ T60 (mkF m 135 #[iv p1, iv p2, iv p3, iv p4, iv 2, rv b40, iv 1] [])
    refine own_st (fun t k => XS.iload X60.here hx rfl (hb hby at_135) rfl k) ?_
    show own_E p e below _ T60 (mkF m 137 #[iv p1, iv p2, iv p3, iv p4, iv 2, rv b40, iv 1] [.int 1])
    refine own_st (fun t k => XS.ifNo X60.here hx rfl (hb hby at_137) rfl (by decide) k) ?_
    show own_E p e below _ T60 (mkF m 140 #[iv p1, iv p2, iv p3, iv p4, iv 2, rv b40, iv 1] [])
    refine own_st (fun t k => XS.aload X60.here hx rfl (hb hby at_140) rfl rfl k) ?_
    show own_E p e below _ T60 (mkF m 142 #[iv p1, iv p2, iv p3, iv p4, iv 2, rv b40, iv 1] [.ref b40])
    refine own_st (fun t k => XS.iload X60.here hx rfl (hb hby at_142) rfl k) ?_
    show own_E p e below _ T60 (mkF m 144 #[iv p1, iv p2, iv p3, iv p4, iv 2, rv b40, iv 1] [.int 2, .ref b40])
    refine own_st (fun t k => XS.iconst X60.here hx rfl (hb hby at_144) k) ?_
    show own_E p e below _ T60 (mkF m 145 #[iv p1, iv p2, iv p3, iv p4, iv 2, rv b40, iv 1] [.int 1, .int 2, .ref b40])
    refine own_st (fun t k => XS.isub X60.here hx rfl (hb hby at_145) rfl k) ?_
    show own_E p e below _ T60 (mkF m 146 #[iv p1, iv p2, iv p3, iv p4, iv 2, rv b40, iv 1] [.int 1, .ref b40])
    obtain ⟨cq61, kq61, q61a, q61b, q61c⟩ := isOf hZ e60 P56_0
    obtain ⟨_, _, ⟨T61, L61, k61, n61⟩, -, X61, ⟨Lc61, hQ61, l61, y61, z61⟩, st61⟩ := X60.virtualBack hx (y := own_y6) (z := own_y6) hown (mvT hZ (own_w hw 35 rfl)) (mvT hZ (own_w hw 36 rfl)) (notFace_of_selects (args := #[]) (mvT hZ (own_w hw 38 rfl))) (mvT hZ (own_w hw 38 rfl)) (mvT hZ (own_w hw 37 rfl)) (by decide) (backOf (W := 0) (own_get16_1 l Z a0 hw [] b40 b42_o0 k42_o1 (0 : Int32) p3 p1 p2 (0 : Int32) (0 : Int32) (0 : Int32) (0 : Int32) (0 : Int32) (0 : Int32) (0 : Int32) (0 : Int32) (0 : Int32) (0 : Int32) (0 : Int32) (0 : Int32) T56.heap n0 Z57 P56_1 P56_3) hZ (own_w hw 39 rfl) (own_w hw 3 rfl) (by decide) (by decide)) q61a q61c (g := (mkF m 146 #[iv p1, iv p2, iv p3, iv p4, iv 2, rv b40, iv 1] [.int 1, .ref b40])) rfl (by rw [hml]; rfl) (Steps.refl _) (argsL := [(.int (1 : Int32))]) (rest := []) (lenOf own_pd_2 rfl) rfl (by show 2 * 0 + _ ≤ _; exact Nat.le_of_eq rfl) (hb hby at_146) (fun _ _ => ⟨rfl, e60, (by decide : 2 + 0 ≤ _), (by decide : 18 + 0 ≤ _)⟩)
    dsimp only [Pt.U, Pt.locs, Pt.cells, Pt.slots] at X61 l61 y61 z61 st61 hQ61
    subst l61 y61 z61
    obtain ⟨hR61, e61, rfl⟩ := hQ61
    have N61 := Fr.app N60 (Fr.nil n0)
    obtain rfl := hR61
    refine own_tr st61 ?_
    show own_E p e below _ T61 (mkF m 149 #[iv p1, iv p2, iv p3, iv p4, iv 2, rv b40, iv 1] [.int p3])
    refine own_st (fun t k => XS.iloadN X61.here hx rfl (hb hby at_149) rfl k) ?_
    show own_E p e below _ T61 (mkF m 150 #[iv p1, iv p2, iv p3, iv p4, iv 2, rv b40, iv 1] [.int p3, .int p3])
    refine own_st (fun t k => XS.icmpNo X61.here hx rfl (hb hby at_150) rfl (teq rfl).2 k) ?_
    show own_E p e below _ T61 (mkF m 153 #[iv p1, iv p2, iv p3, iv p4, iv 2, rv b40, iv 1] [])
    refine own_st (fun t k => XS.iconst X61.here hx rfl (hb hby at_153) k) ?_
    show own_E p e below _ T61 (mkF m 154 #[iv p1, iv p2, iv p3, iv p4, iv 2, rv b40, iv 1] [.int 1])
    refine own_st (fun t k => XS.goto X61.here hx rfl (pc0 := 154) (pc' := 158) rfl (hb hby at_154) (by decide) (by decide) k) ?_
    show own_E p e below _ T61 (mkF m 158 #[iv p1, iv p2, iv p3, iv p4, iv 2, rv b40, iv 1] [.int 1])
    refine own_st (fun t k => XS.istore X61.here hx rfl (hb hby at_158) rfl (l' := #[iv p1, iv p2, iv p3, iv p4, iv 2, rv b40, iv 1]) rfl k) ?_
    show own_E p e below _ T61 (mkF m 160 #[iv p1, iv p2, iv p3, iv p4, iv 2, rv b40, iv 1] [])
    refine own_st (fun t k => XS.iload X61.here hx rfl (hb hby at_160) rfl k) ?_
    show own_E p e below _ T61 (mkF m 162 #[iv p1, iv p2, iv p3, iv p4, iv 2, rv b40, iv 1] [.int 1])
    refine own_retS X61 hx Bd.notSynchronized Bd.returns rfl (by decide) (hb hby at_162) (by decide) (by decide) ?_
    exact ⟨rfl, N61⟩
  · rw [hs1]
    show own_E p e below _ s₁ (mkF m 9 #[iv p1, iv p2, iv p3, iv p4, iv 3, .unset, .unset] [])
    obtain ⟨T62, h62, X62, e62, E62, A62, D62, -, st62⟩ := newO X0 hx hZ hown (own_w hw 1 rfl) (own_w hw 2 rfl) (own_w hw 3 rfl) e0 (g := (mkF m 9 #[iv p1, iv p2, iv p3, iv p4, iv 3, .unset, .unset] [])) rfl (hb hby at_9) (by decide) (by decide)
    obtain ⟨b62, g62⟩ : ∃ z, z = h0.size := ⟨_, rfl⟩
    rw [← g62] at A62 D62 st62
    have g_b62 : n0 ≤ b62 := Nat.le_trans Z0 (Nat.le_of_eq g62.symm)
    have Z63 := Nat.le_trans Z0 E62.1
    have F_values_b62 : Fld Z h62 b62 "com/example/kalchas/kalchas/IntList" "values" "[I" .null := D62 (Or.inl (own_w hw 12 rfl)) (ty := (.array .int)) (by decide)
    have F_size_b62 : Fld Z h62 b62 "com/example/kalchas/kalchas/IntList" "size" "I" (.int (0 : Int32)) := D62 (Or.inl (own_w hw 19 rfl)) (ty := .int) (by decide)
    refine own_st st62 ?_
    show own_E p e below _ T62 (mkF m 12 #[iv p1, iv p2, iv p3, iv p4, iv 3, .unset, .unset] [.ref b62])
    refine own_st (fun t k => XS.dup X62.here hx rfl (hb hby at_12) rfl rfl k) ?_
    show own_E p e below _ T62 (mkF m 13 #[iv p1, iv p2, iv p3, iv p4, iv 3, .unset, .unset] [.ref b62, .ref b62])
    obtain ⟨_, _, ⟨T64, L64, k64, n64⟩, -, X64, ⟨Lc64, hQ64, l64, y64, z64⟩, st64⟩ := X62.specialBack hx (y := own_y2) rfl hown (mvT hZ (own_w hw 4 rfl)) (mvT hZ (own_w hw 5 rfl)) (mvT hZ (own_w hw 6 rfl)) (by decide) (backOf (W := 1) (own_init l Z a0 hw [] b62 h62 n0 Z63 A62 F_values_b62 F_size_b62 g_b62) hZ (own_w hw 6 rfl) (own_w hw 3 rfl) (by decide) (by decide)) (g := (mkF m 13 #[iv p1, iv p2, iv p3, iv p4, iv 3, .unset, .unset] [.ref b62, .ref b62])) rfl (by rw [hml]; rfl) (Steps.refl _) (a := b62) (argsL := []) (rest := [(.ref b62)]) (lenOf own_pd_1 rfl) rfl (by show 2 * 0 + _ ≤ _; exact Nat.le_of_eq rfl) (hb hby at_13) (fun _ _ => ⟨rfl, e62, (by decide : 1 + 1 ≤ _), (by decide : 2 + 16 ≤ _)⟩)
    dsimp only [Pt.U, Pt.locs, Pt.cells, Pt.slots] at X64 l64 y64 z64 st64 hQ64
    subst l64 y64 z64
    obtain ⟨b64_o0, k64_o1, rfl, Nq64, Kq64, sz64_0, P64_0, P64_1, P64_2, P64_3⟩ := hQ64
    have N64 := Fr.app (Fr.nil n0) Nq64
    have ne_b62_b64_o0 : b62 ≠ b64_o0 := Nat.ne_of_lt (Nat.lt_of_lt_of_le A62.lt sz64_0)
    have g_b64_o0 : n0 ≤ b64_o0 := Nat.le_trans Z63 sz64_0
    have e64 : T64.heap = T64.heap := rfl
    have Z65 := Nat.le_trans Z63 Kq64.1
    refine own_tr st64 ?_
    show own_E p e below _ T64 (mkF m 16 #[iv p1, iv p2, iv p3, iv p4, iv 3, .unset, .unset] [.ref b62])
    refine own_st (fun t k => XS.astore X64.here hx rfl (hb hby at_16) rfl rfl (l' := #[iv p1, iv p2, iv p3, iv p4, iv 3, rv b62, .unset]) rfl k) ?_
    show own_E p e below _ T64 (mkF m 18 #[iv p1, iv p2, iv p3, iv p4, iv 3, rv b62, .unset] [])
    refine own_st (fun t k => XS.aload X64.here hx rfl (hb hby at_18) rfl rfl k) ?_
    show own_E p e below _ T64 (mkF m 20 #[iv p1, iv p2, iv p3, iv p4, iv 3, rv b62, .unset] [.ref b62])
    refine own_st (fun t k => XS.iload X64.here hx rfl (hb hby at_20) rfl k) ?_
    show own_E p e below _ T64 (mkF m 22 #[iv p1, iv p2, iv p3, iv p4, iv 3, rv b62, .unset] [.int 3, .ref b62])
    obtain ⟨cq66, kq66, q66a, q66b, q66c⟩ := isOf hZ e64 P64_0
    obtain ⟨_, _, ⟨T66, L66, k66, n66⟩, -, X66, ⟨Lc66, hQ66, l66, y66, z66⟩, st66⟩ := X64.virtualBack hx (y := own_y3) (z := own_y3) hown (mvT hZ (own_w hw 13 rfl)) (mvT hZ (own_w hw 14 rfl)) (notFace_of_selects (args := #[]) (mvT hZ (own_w hw 16 rfl))) (mvT hZ (own_w hw 16 rfl)) (mvT hZ (own_w hw 15 rfl)) (by decide) (backOf (W := 0) (own_trunc l Z a0 hw [] b62 b64_o0 (3 : Int32) (0 : Int32) T64.heap n0 Z65 P64_0 P64_1 P64_2 g_b62) hZ (own_w hw 17 rfl) (own_w hw 3 rfl) (by decide) (by decide)) q66a q66c (g := (mkF m 22 #[iv p1, iv p2, iv p3, iv p4, iv 3, rv b62, .unset] [.int 3, .ref b62])) rfl (by rw [hml]; rfl) (Steps.refl _) (argsL := [(.int (3 : Int32))]) (rest := []) (lenOf own_pd_3 rfl) rfl (by show 2 * 0 + _ ≤ _; exact Nat.le_of_eq rfl) (hb hby at_22) (fun _ _ => ⟨rfl, e64, (by decide : 2 + 0 ≤ _), (by decide : 18 + 0 ≤ _)⟩)
    dsimp only [Pt.U, Pt.locs, Pt.cells, Pt.slots] at X66 l66 y66 z66 st66 hQ66
    subst l66 y66 z66
    obtain ⟨rfl, Nq66, Kq66, P66_0, P66_1, P66_2⟩ := hQ66
    have N66 := Fr.app N64 Nq66
    have e66 : T66.heap = T66.heap := rfl
    have Z67 := Nat.le_trans Z65 Kq66.1
    refine own_tr st66 ?_
    show own_E p e below _ T66 (mkF m 25 #[iv p1, iv p2, iv p3, iv p4, iv 3, rv b62, .unset] [])
    refine own_st (fun t k => XS.iload X66.here hx rfl (hb hby at_25) rfl k) ?_
    show own_E p e below _ T66 (mkF m 27 #[iv p1, iv p2, iv p3, iv p4, iv 3, rv b62, .unset] [.int 3])
    refine own_st (fun t k => XS.ifNo X66.here hx rfl (hb hby at_27) rfl (by decide) k) ?_
    show own_E p e below _ T66 (mkF m 30 #[iv p1, iv p2, iv p3, iv p4, iv 3, rv b62, .unset] [])
    refine own_st (fun t k => XS.aload X66.here hx rfl (hb hby at_30) rfl rfl k) ?_
    show own_E p e below _ T66 (mkF m 32 #[iv p1, iv p2, iv p3, iv p4, iv 3, rv b62, .unset] [.ref b62])
    refine own_st (fun t k => XS.iload X66.here hx rfl (hb hby at_32) rfl k) ?_
    show own_E p e below _ T66 (mkF m 34 #[iv p1, iv p2, iv p3, iv p4, iv 3, rv b62, .unset] [.int 3, .ref b62])
    refine own_st (fun t k => XS.iconst X66.here hx rfl (hb hby at_34) k) ?_
    show own_E p e below _ T66 (mkF m 35 #[iv p1, iv p2, iv p3, iv p4, iv 3, rv b62, .unset] [.int 1, .int 3, .ref b62])
    refine own_st (fun t k => XS.isub X66.here hx rfl (hb hby at_35) rfl k) ?_
    show own_E p e below _ T66 (mkF m 36 #[iv p1, iv p2, iv p3, iv p4, iv 3, rv b62, .unset] [.int 2, .ref b62])
    refine own_st (fun t k => XS.iloadN X66.here hx rfl (hb hby at_36) rfl k) ?_
    show own_E p e below _ T66 (mkF m 37 #[iv p1, iv p2, iv p3, iv p4, iv 3, rv b62, .unset] [.int p3, .int 2, .ref b62])
    have B68 := (P64_3.keep Kq66 (ninS (Ne.symm ne_b62_b64_o0) nin0))
    obtain ⟨cq69, kq69, q69a, q69b, q69c⟩ := isOf hZ e66 P66_0
    obtain ⟨_, _, ⟨T69, L69, k69, n69⟩, -, X69, ⟨Lc69, hQ69, l69, y69, z69⟩, st69⟩ := X66.virtualBack hx (y := own_y4) (z := own_y4) hown (mvT hZ (own_w hw 20 rfl)) (mvT hZ (own_w hw 21 rfl)) (notFace_of_selects (args := #[]) (mvT hZ (own_w hw 23 rfl))) (mvT hZ (own_w hw 23 rfl)) (mvT hZ (own_w hw 22 rfl)) (by decide) (backOf (W := 0) (own_set2 l Z a0 hw [] b62 b64_o0 k64_o1 p3 (0 : Int32) (0 : Int32) (0 : Int32) (0 : Int32) (0 : Int32) (0 : Int32) (0 : Int32) (0 : Int32) (0 : Int32) (0 : Int32) (0 : Int32) (0 : Int32) (0 : Int32) (0 : Int32) (0 : Int32) (0 : Int32) T66.heap n0 Z67 P66_1 B68 ne_b62_b64_o0 g_b64_o0) hZ (own_w hw 24 rfl) (own_w hw 3 rfl) (by decide) (by decide)) q69a q69c (g := (mkF m 37 #[iv p1, iv p2, iv p3, iv p4, iv 3, rv b62, .unset] [.int p3, .int 2, .ref b62])) rfl (by rw [hml]; rfl) (Steps.refl _) (argsL := [(.int (2 : Int32)), (.int p3)]) (rest := []) (lenOf own_pd_5 rfl) rfl (by show 2 * 0 + _ ≤ _; exact Nat.le_of_eq rfl) (hb hby at_37) (fun _ _ => ⟨rfl, e66, (by decide : 2 + 0 ≤ _), (by decide : 18 + 0 ≤ _)⟩)
    dsimp only [Pt.U, Pt.locs, Pt.cells, Pt.slots] at X69 l69 y69 z69 st69 hQ69
    subst l69 y69 z69
    obtain ⟨rfl, Nq69, Kq69, P69_0⟩ := hQ69
    have N69 := Fr.app N66 Nq69
    have e69 : T69.heap = T69.heap := rfl
    have Z70 := Nat.le_trans Z67 Kq69.1
    refine own_tr st69 ?_
    show own_E p e below _ T69 (mkF m 40 #[iv p1, iv p2, iv p3, iv p4, iv 3, rv b62, .unset] [])
    refine own_st (fun t k => XS.aload X69.here hx rfl (hb hby at_40) rfl rfl k) ?_
    show own_E p e below _ T69 (mkF m 42 #[iv p1, iv p2, iv p3, iv p4, iv 3, rv b62, .unset] [.ref b62])
    refine own_st (fun t k => XS.iloadN X69.here hx rfl (hb hby at_42) rfl k) ?_
    show own_E p e below _ T69 (mkF m 43 #[iv p1, iv p2, iv p3, iv p4, iv 3, rv b62, .unset] [.int p1, .ref b62])
    have B71 := (P66_0.keep Kq69)
    have B72 := (P66_1.keep Kq69 (ninS ne_b62_b64_o0 nin0))
    have B73 := (P66_2.keep Kq69 (ninS ne_b62_b64_o0 nin0))
    obtain ⟨cq74, kq74, q74a, q74b, q74c⟩ := isOf hZ e69 B71
    obtain ⟨_, _, ⟨T74, L74, k74, n74⟩, -, X74, ⟨Lc74, hQ74, l74, y74, z74⟩, st74⟩ := X69.virtualBack hx (y := own_y5) (z := own_y5) hown (mvT hZ (own_w hw 25 rfl)) (mvT hZ (own_w hw 26 rfl)) (notFace_of_selects (args := #[]) (mvT hZ (own_w hw 28 rfl))) (mvT hZ (own_w hw 28 rfl)) (mvT hZ (own_w hw 27 rfl)) (by decide) (backOf (W := 0) (own_add3 l Z a0 hw [] b62 b64_o0 k64_o1 p1 (0 : Int32) (0 : Int32) p3 (0 : Int32) (0 : Int32) (0 : Int32) (0 : Int32) (0 : Int32) (0 : Int32) (0 : Int32) (0 : Int32) (0 : Int32) (0 : Int32) (0 : Int32) (0 : Int32) (0 : Int32) T69.heap n0 Z70 B71 B72 B73 P69_0 ne_b62_b64_o0 g_b62 g_b64_o0) hZ (own_w hw 29 rfl) (own_w hw 3 rfl) (by decide) (by decide)) q74a q74c (g := (mkF m 43 #[iv p1, iv p2, iv p3, iv p4, iv 3, rv b62, .unset] [.int p1, .ref b62])) rfl (by rw [hml]; rfl) (Steps.refl _) (argsL := [(.int p1)]) (rest := []) (lenOf own_pd_3 rfl) rfl (by show 2 * 0 + _ ≤ _; exact Nat.le_of_eq rfl) (hb hby at_43) (fun _ _ => ⟨rfl, e69, (by decide : 2 + 0 ≤ _), (by decide : 18 + 0 ≤ _)⟩)
    dsimp only [Pt.U, Pt.locs, Pt.cells, Pt.slots] at X74 l74 y74 z74 st74 hQ74
    subst l74 y74 z74
    obtain ⟨rfl, Nq74, Kq74, P74_0, P74_1, P74_2, P74_3⟩ := hQ74
    have N74 := Fr.app N69 Nq74
    have e74 : T74.heap = T74.heap := rfl
    have Z75 := Nat.le_trans Z70 Kq74.1
    refine own_tr st74 ?_
    show own_E p e below _ T74 (mkF m 46 #[iv p1, iv p2, iv p3, iv p4, iv 3, rv b62, .unset] [])
    refine own_st (fun t k => XS.aload X74.here hx rfl (hb hby at_46) rfl rfl k) ?_
    show own_E p e below _ T74 (mkF m 48 #[iv p1, iv p2, iv p3, iv p4, iv 3, rv b62, .unset] [.ref b62])
    obtain ⟨cq76, kq76, q76a, q76b, q76c⟩ := isOf hZ e74 P74_0
    obtain ⟨_, _, ⟨T76, L76, k76, n76⟩, -, X76, ⟨Lc76, hQ76, l76, y76, z76⟩, st76⟩ := X74.virtualBack hx (y := own_y7) (z := own_y7) hown (mvT hZ (own_w hw 30 rfl)) (mvT hZ (own_w hw 31 rfl)) (notFace_of_selects (args := #[]) (mvT hZ (own_w hw 33 rfl))) (mvT hZ (own_w hw 33 rfl)) (mvT hZ (own_w hw 32 rfl)) (by decide) (backOf (W := 0) (own_size l Z a0 hw [] b62 (4 : Int32) T74.heap n0 Z75 P74_2) hZ (own_w hw 34 rfl) (own_w hw 3 rfl) (by decide) (by decide)) q76a q76c (g := (mkF m 48 #[iv p1, iv p2, iv p3, iv p4, iv 3, rv b62, .unset] [.ref b62])) rfl (by rw [hml]; rfl) (Steps.refl _) (argsL := []) (rest := []) (lenOf own_pd_0 rfl) rfl (by show 2 * 0 + _ ≤ _; exact Nat.le_of_eq rfl) (hb hby at_48) (fun _ _ => ⟨rfl, e74, (by decide : 2 + 0 ≤ _), (by decide : 18 + 0 ≤ _)⟩)
    dsimp only [Pt.U, Pt.locs, Pt.cells, Pt.slots] at X76 l76 y76 z76 st76 hQ76
    subst l76 y76 z76
    obtain ⟨hR76, e76, rfl⟩ := hQ76
    have N76 := Fr.app N74 (Fr.nil n0)
    obtain rfl := hR76
    refine own_tr st76 ?_
    show own_E p e below _ T76 (mkF m 51 #[iv p1, iv p2, iv p3, iv p4, iv 3, rv b62, .unset] [.int 4])
    refine own_st (fun t k => XS.iload X76.here hx rfl (hb hby at_51) rfl k) ?_
    show own_E p e below _ T76 (mkF m 53 #[iv p1, iv p2, iv p3, iv p4, iv 3, rv b62, .unset] [.int 3, .int 4])
    refine own_st (fun t k => XS.iconst X76.here hx rfl (hb hby at_53) k) ?_
    show own_E p e below _ T76 (mkF m 54 #[iv p1, iv p2, iv p3, iv p4, iv 3, rv b62, .unset] [.int 1, .int 3, .int 4])
    refine own_st (fun t k => XS.iadd X76.here hx rfl (hb hby at_54) rfl k) ?_
    show own_E p e below _ T76 (mkF m 55 #[iv p1, iv p2, iv p3, iv p4, iv 3, rv b62, .unset] [.int 4, .int 4])
    refine own_st (fun t k => XS.icmpNo X76.here hx rfl (hb hby at_55) rfl (by decide) k) ?_
    show own_E p e below _ T76 (mkF m 58 #[iv p1, iv p2, iv p3, iv p4, iv 3, rv b62, .unset] [])
    refine own_st (fun t k => XS.aload X76.here hx rfl (hb hby at_58) rfl rfl k) ?_
    show own_E p e below _ T76 (mkF m 60 #[iv p1, iv p2, iv p3, iv p4, iv 3, rv b62, .unset] [.ref b62])
    refine own_st (fun t k => XS.iload X76.here hx rfl (hb hby at_60) rfl k) ?_
    show own_E p e below _ T76 (mkF m 62 #[iv p1, iv p2, iv p3, iv p4, iv 3, rv b62, .unset] [.int 3, .ref b62])
    obtain ⟨cq77, kq77, q77a, q77b, q77c⟩ := isOf hZ e76 P74_0
    obtain ⟨_, _, ⟨T77, L77, k77, n77⟩, -, X77, ⟨Lc77, hQ77, l77, y77, z77⟩, st77⟩ := X76.virtualBack hx (y := own_y6) (z := own_y6) hown (mvT hZ (own_w hw 35 rfl)) (mvT hZ (own_w hw 36 rfl)) (notFace_of_selects (args := #[]) (mvT hZ (own_w hw 38 rfl))) (mvT hZ (own_w hw 38 rfl)) (mvT hZ (own_w hw 37 rfl)) (by decide) (backOf (W := 0) (own_get16_3 l Z a0 hw [] b62 b64_o0 k64_o1 (0 : Int32) (0 : Int32) p3 p1 (0 : Int32) (0 : Int32) (0 : Int32) (0 : Int32) (0 : Int32) (0 : Int32) (0 : Int32) (0 : Int32) (0 : Int32) (0 : Int32) (0 : Int32) (0 : Int32) T74.heap n0 Z75 P74_1 P74_3) hZ (own_w hw 39 rfl) (own_w hw 3 rfl) (by decide) (by decide)) q77a q77c (g := (mkF m 62 #[iv p1, iv p2, iv p3, iv p4, iv 3, rv b62, .unset] [.int 3, .ref b62])) rfl (by rw [hml]; rfl) (Steps.refl _) (argsL := [(.int (3 : Int32))]) (rest := []) (lenOf own_pd_2 rfl) rfl (by show 2 * 0 + _ ≤ _; exact Nat.le_of_eq rfl) (hb hby at_62) (fun _ _ => ⟨rfl, e76, (by decide : 2 + 0 ≤ _), (by decide : 18 + 0 ≤ _)⟩)
    dsimp only [Pt.U, Pt.locs, Pt.cells, Pt.slots] at X77 l77 y77 z77 st77 hQ77
    subst l77 y77 z77
    obtain ⟨hR77, e77, rfl⟩ := hQ77
    have N77 := Fr.app N76 (Fr.nil n0)
    obtain rfl := hR77
    refine own_tr st77 ?_
    show own_E p e below _ T77 (mkF m 65 #[iv p1, iv p2, iv p3, iv p4, iv 3, rv b62, .unset] [.int p1])
    refine own_st (fun t k => XS.iloadN X77.here hx rfl (hb hby at_65) rfl k) ?_
    show own_E p e below _ T77 (mkF m 66 #[iv p1, iv p2, iv p3, iv p4, iv 3, rv b62, .unset] [.int p1, .int p1])
    refine own_st (fun t k => XS.icmpNo X77.here hx rfl (hb hby at_66) rfl (teq rfl).2 k) ?_
    show own_E p e below _ T77 (mkF m 69 #[iv p1, iv p2, iv p3, iv p4, iv 3, rv b62, .unset] [])
    refine own_st (fun t k => XS.iconst X77.here hx rfl (hb hby at_69) k) ?_
    show own_E p e below _ T77 (mkF m 70 #[iv p1, iv p2, iv p3, iv p4, iv 3, rv b62, .unset] [.int 1])
    refine own_st (fun t k => XS.goto X77.here hx rfl (pc0 := 70) (pc' := 74) rfl (hb hby at_70) (by decide) (by decide) k) ?_
    show own_E p e below _ T77 (mkF m 74 #[iv p1, iv p2, iv p3, iv p4, iv 3, rv b62, .unset] [.int 1])
    refine own_st (fun t k => XS.istore X77.here hx rfl (hb hby at_74) rfl (l' := #[iv p1, iv p2, iv p3, iv p4, iv 3, rv b62, iv 1]) rfl k) ?_
    show own_E p e below _ T77 (mkF m 76 #[iv p1, iv p2, iv p3, iv p4, iv 3, rv b62, iv 1] [])
    refine own_st (fun t k => XS.aload X77.here hx rfl (hb hby at_76) rfl rfl k) ?_
    show own_E p e below _ T77 (mkF m 78 #[iv p1, iv p2, iv p3, iv p4, iv 3, rv b62, iv 1] [.ref b62])
    refine own_st (fun t k => XS.iloadN X77.here hx rfl (hb hby at_78) rfl k) ?_
    show own_E p e below _ T77 (mkF m 79 #[iv p1, iv p2, iv p3, iv p4, iv 3, rv b62, iv 1] [.int p2, .ref b62])
    obtain ⟨cq78, kq78, q78a, q78b, q78c⟩ := isOf hZ e77 P74_0
    obtain ⟨_, _, ⟨T78, L78, k78, n78⟩, -, X78, ⟨Lc78, hQ78, l78, y78, z78⟩, st78⟩ := X77.virtualBack hx (y := own_y5) (z := own_y5) hown (mvT hZ (own_w hw 25 rfl)) (mvT hZ (own_w hw 26 rfl)) (notFace_of_selects (args := #[]) (mvT hZ (own_w hw 28 rfl))) (mvT hZ (own_w hw 28 rfl)) (mvT hZ (own_w hw 27 rfl)) (by decide) (backOf (W := 0) (own_add4 l Z a0 hw [] b62 b64_o0 k64_o1 p2 (0 : Int32) (0 : Int32) p3 p1 (0 : Int32) (0 : Int32) (0 : Int32) (0 : Int32) (0 : Int32) (0 : Int32) (0 : Int32) (0 : Int32) (0 : Int32) (0 : Int32) (0 : Int32) (0 : Int32) T74.heap n0 Z75 P74_0 P74_1 P74_2 P74_3 ne_b62_b64_o0 g_b62 g_b64_o0) hZ (own_w hw 29 rfl) (own_w hw 3 rfl) (by decide) (by decide)) q78a q78c (g := (mkF m 79 #[iv p1, iv p2, iv p3, iv p4, iv 3, rv b62, iv 1] [.int p2, .ref b62])) rfl (by rw [hml]; rfl) (Steps.refl _) (argsL := [(.int p2)]) (rest := []) (lenOf own_pd_3 rfl) rfl (by show 2 * 0 + _ ≤ _; exact Nat.le_of_eq rfl) (hb hby at_79) (fun _ _ => ⟨rfl, e77, (by decide : 2 + 0 ≤ _), (by decide : 18 + 0 ≤ _)⟩)
    dsimp only [Pt.U, Pt.locs, Pt.cells, Pt.slots] at X78 l78 y78 z78 st78 hQ78
    subst l78 y78 z78
    obtain ⟨rfl, Nq78, Kq78, P78_0, P78_1, P78_2, P78_3⟩ := hQ78
    have N78 := Fr.app N77 Nq78
    have e78 : T78.heap = T78.heap := rfl
    have Z79 := Nat.le_trans Z75 Kq78.1
    refine own_tr st78 ?_
    show own_E p e below _ T78 (mkF m 82 #[iv p1, iv p2, iv p3, iv p4, iv 3, rv b62, iv 1] [])
    refine own_st (fun t k => XS.iload X78.here hx rfl (hb hby at_82) rfl k) ?_
    show own_E p e below _ T78 (mkF m 84 #[iv p1, iv p2, iv p3, iv p4, iv 3, rv b62, iv 1] [.int 1])
    refine own_st (fun t k => XS.ifNo X78.here hx rfl (hb hby at_84) rfl (by decide) k) ?_
    show own_E p e below _ T78 (mkF m 87 #[iv p1, iv p2, iv p3, iv p4, iv 3, rv b62, iv 1] [])
    refine own_st (fun t k => XS.aload X78.here hx rfl (hb hby at_87) rfl rfl k) ?_
    show own_E p e below _ T78 (mkF m 89 #[iv p1, iv p2, iv p3, iv p4, iv 3, rv b62, iv 1] [.ref b62])
    obtain ⟨cq80, kq80, q80a, q80b, q80c⟩ := isOf hZ e78 P78_0
    obtain ⟨_, _, ⟨T80, L80, k80, n80⟩, -, X80, ⟨Lc80, hQ80, l80, y80, z80⟩, st80⟩ := X78.virtualBack hx (y := own_y7) (z := own_y7) hown (mvT hZ (own_w hw 30 rfl)) (mvT hZ (own_w hw 31 rfl)) (notFace_of_selects (args := #[]) (mvT hZ (own_w hw 33 rfl))) (mvT hZ (own_w hw 33 rfl)) (mvT hZ (own_w hw 32 rfl)) (by decide) (backOf (W := 0) (own_size l Z a0 hw [] b62 (5 : Int32) T78.heap n0 Z79 P78_2) hZ (own_w hw 34 rfl) (own_w hw 3 rfl) (by decide) (by decide)) q80a q80c (g := (mkF m 89 #[iv p1, iv p2, iv p3, iv p4, iv 3, rv b62, iv 1] [.ref b62])) rfl (by rw [hml]; rfl) (Steps.refl _) (argsL := []) (rest := []) (lenOf own_pd_0 rfl) rfl (by show 2 * 0 + _ ≤ _; exact Nat.le_of_eq rfl) (hb hby at_89) (fun _ _ => ⟨rfl, e78, (by decide : 2 + 0 ≤ _), (by decide : 18 + 0 ≤ _)⟩)
    dsimp only [Pt.U, Pt.locs, Pt.cells, Pt.slots] at X80 l80 y80 z80 st80 hQ80
    subst l80 y80 z80
    obtain ⟨hR80, e80, rfl⟩ := hQ80
    have N80 := Fr.app N78 (Fr.nil n0)
    obtain rfl := hR80
    refine own_tr st80 ?_
    show own_E p e below _ T80 (mkF m 92 #[iv p1, iv p2, iv p3, iv p4, iv 3, rv b62, iv 1] [.int 5])
    refine own_st (fun t k => XS.iload X80.here hx rfl (hb hby at_92) rfl k) ?_
    show own_E p e below _ T80 (mkF m 94 #[iv p1, iv p2, iv p3, iv p4, iv 3, rv b62, iv 1] [.int 3, .int 5])
    refine own_st (fun t k => XS.iconst X80.here hx rfl (hb hby at_94) k) ?_
    show own_E p e below _ T80 (mkF m 95 #[iv p1, iv p2, iv p3, iv p4, iv 3, rv b62, iv 1] [.int 2, .int 3, .int 5])
    refine own_st (fun t k => XS.iadd X80.here hx rfl (hb hby at_95) rfl k) ?_
    show own_E p e below _ T80 (mkF m 96 #[iv p1, iv p2, iv p3, iv p4, iv 3, rv b62, iv 1] [.int 5, .int 5])
    refine own_st (fun t k => XS.icmpNo X80.here hx rfl (hb hby at_96) rfl (by decide) k) ?_
    show own_E p e below _ T80 (mkF m 99 #[iv p1, iv p2, iv p3, iv p4, iv 3, rv b62, iv 1] [])
    refine own_st (fun t k => XS.aload X80.here hx rfl (hb hby at_99) rfl rfl k) ?_
    show own_E p e below _ T80 (mkF m 101 #[iv p1, iv p2, iv p3, iv p4, iv 3, rv b62, iv 1] [.ref b62])
    refine own_st (fun t k => XS.iload X80.here hx rfl (hb hby at_101) rfl k) ?_
    show own_E p e below _ T80 (mkF m 103 #[iv p1, iv p2, iv p3, iv p4, iv 3, rv b62, iv 1] [.int 3, .ref b62])
    obtain ⟨cq81, kq81, q81a, q81b, q81c⟩ := isOf hZ e80 P78_0
    obtain ⟨_, _, ⟨T81, L81, k81, n81⟩, -, X81, ⟨Lc81, hQ81, l81, y81, z81⟩, st81⟩ := X80.virtualBack hx (y := own_y6) (z := own_y6) hown (mvT hZ (own_w hw 35 rfl)) (mvT hZ (own_w hw 36 rfl)) (notFace_of_selects (args := #[]) (mvT hZ (own_w hw 38 rfl))) (mvT hZ (own_w hw 38 rfl)) (mvT hZ (own_w hw 37 rfl)) (by decide) (backOf (W := 0) (own_get16_3 l Z a0 hw [] b62 b64_o0 k64_o1 (0 : Int32) (0 : Int32) p3 p1 p2 (0 : Int32) (0 : Int32) (0 : Int32) (0 : Int32) (0 : Int32) (0 : Int32) (0 : Int32) (0 : Int32) (0 : Int32) (0 : Int32) (0 : Int32) T78.heap n0 Z79 P78_1 P78_3) hZ (own_w hw 39 rfl) (own_w hw 3 rfl) (by decide) (by decide)) q81a q81c (g := (mkF m 103 #[iv p1, iv p2, iv p3, iv p4, iv 3, rv b62, iv 1] [.int 3, .ref b62])) rfl (by rw [hml]; rfl) (Steps.refl _) (argsL := [(.int (3 : Int32))]) (rest := []) (lenOf own_pd_2 rfl) rfl (by show 2 * 0 + _ ≤ _; exact Nat.le_of_eq rfl) (hb hby at_103) (fun _ _ => ⟨rfl, e80, (by decide : 2 + 0 ≤ _), (by decide : 18 + 0 ≤ _)⟩)
    dsimp only [Pt.U, Pt.locs, Pt.cells, Pt.slots] at X81 l81 y81 z81 st81 hQ81
    subst l81 y81 z81
    obtain ⟨hR81, e81, rfl⟩ := hQ81
    have N81 := Fr.app N80 (Fr.nil n0)
    obtain rfl := hR81
    refine own_tr st81 ?_
    show own_E p e below _ T81 (mkF m 106 #[iv p1, iv p2, iv p3, iv p4, iv 3, rv b62, iv 1] [.int p1])
    refine own_st (fun t k => XS.iloadN X81.here hx rfl (hb hby at_106) rfl k) ?_
    show own_E p e below _ T81 (mkF m 107 #[iv p1, iv p2, iv p3, iv p4, iv 3, rv b62, iv 1] [.int p1, .int p1])
    refine own_st (fun t k => XS.icmpNo X81.here hx rfl (hb hby at_107) rfl (teq rfl).2 k) ?_
    show own_E p e below _ T81 (mkF m 110 #[iv p1, iv p2, iv p3, iv p4, iv 3, rv b62, iv 1] [])
    refine own_st (fun t k => XS.aload X81.here hx rfl (hb hby at_110) rfl rfl k) ?_
    show own_E p e below _ T81 (mkF m 112 #[iv p1, iv p2, iv p3, iv p4, iv 3, rv b62, iv 1] [.ref b62])
    refine own_st (fun t k => XS.iload X81.here hx rfl (hb hby at_112) rfl k) ?_
    show own_E p e below _ T81 (mkF m 114 #[iv p1, iv p2, iv p3, iv p4, iv 3, rv b62, iv 1] [.int 3, .ref b62])
    refine own_st (fun t k => XS.iconst X81.here hx rfl (hb hby at_114) k) ?_
    show own_E p e below _ T81 (mkF m 115 #[iv p1, iv p2, iv p3, iv p4, iv 3, rv b62, iv 1] [.int 1, .int 3, .ref b62])
    refine own_st (fun t k => XS.iadd X81.here hx rfl (hb hby at_115) rfl k) ?_
    show own_E p e below _ T81 (mkF m 116 #[iv p1, iv p2, iv p3, iv p4, iv 3, rv b62, iv 1] [.int 4, .ref b62])
    obtain ⟨cq82, kq82, q82a, q82b, q82c⟩ := isOf hZ e81 P78_0
    obtain ⟨_, _, ⟨T82, L82, k82, n82⟩, -, X82, ⟨Lc82, hQ82, l82, y82, z82⟩, st82⟩ := X81.virtualBack hx (y := own_y6) (z := own_y6) hown (mvT hZ (own_w hw 35 rfl)) (mvT hZ (own_w hw 36 rfl)) (notFace_of_selects (args := #[]) (mvT hZ (own_w hw 38 rfl))) (mvT hZ (own_w hw 38 rfl)) (mvT hZ (own_w hw 37 rfl)) (by decide) (backOf (W := 0) (own_get16_4 l Z a0 hw [] b62 b64_o0 k64_o1 (0 : Int32) (0 : Int32) p3 p1 p2 (0 : Int32) (0 : Int32) (0 : Int32) (0 : Int32) (0 : Int32) (0 : Int32) (0 : Int32) (0 : Int32) (0 : Int32) (0 : Int32) (0 : Int32) T78.heap n0 Z79 P78_1 P78_3) hZ (own_w hw 39 rfl) (own_w hw 3 rfl) (by decide) (by decide)) q82a q82c (g := (mkF m 116 #[iv p1, iv p2, iv p3, iv p4, iv 3, rv b62, iv 1] [.int 4, .ref b62])) rfl (by rw [hml]; rfl) (Steps.refl _) (argsL := [(.int (4 : Int32))]) (rest := []) (lenOf own_pd_2 rfl) rfl (by show 2 * 0 + _ ≤ _; exact Nat.le_of_eq rfl) (hb hby at_116) (fun _ _ => ⟨rfl, e81, (by decide : 2 + 0 ≤ _), (by decide : 18 + 0 ≤ _)⟩)
    dsimp only [Pt.U, Pt.locs, Pt.cells, Pt.slots] at X82 l82 y82 z82 st82 hQ82
    subst l82 y82 z82
    obtain ⟨hR82, e82, rfl⟩ := hQ82
    have N82 := Fr.app N81 (Fr.nil n0)
    obtain rfl := hR82
    refine own_tr st82 ?_
    show own_E p e below _ T82 (mkF m 119 #[iv p1, iv p2, iv p3, iv p4, iv 3, rv b62, iv 1] [.int p2])
    refine own_st (fun t k => XS.iloadN X82.here hx rfl (hb hby at_119) rfl k) ?_
    show own_E p e below _ T82 (mkF m 120 #[iv p1, iv p2, iv p3, iv p4, iv 3, rv b62, iv 1] [.int p2, .int p2])
    refine own_st (fun t k => XS.icmpNo X82.here hx rfl (hb hby at_120) rfl (teq rfl).2 k) ?_
    show own_E p e below _ T82 (mkF m 123 #[iv p1, iv p2, iv p3, iv p4, iv 3, rv b62, iv 1] [])
    refine own_st (fun t k => XS.iconst X82.here hx rfl (hb hby at_123) k) ?_
    show own_E p e below _ T82 (mkF m 124 #[iv p1, iv p2, iv p3, iv p4, iv 3, rv b62, iv 1] [.int 1])
    refine own_st (fun t k => XS.goto X82.here hx rfl (pc0 := 124) (pc' := 128) rfl (hb hby at_124) (by decide) (by decide) k) ?_
    show own_E p e below _ T82 (mkF m 128 #[iv p1, iv p2, iv p3, iv p4, iv 3, rv b62, iv 1] [.int 1])
    refine own_st (fun t k => XS.istore X82.here hx rfl (hb hby at_128) rfl (l' := #[iv p1, iv p2, iv p3, iv p4, iv 3, rv b62, iv 1]) rfl k) ?_
    show own_E p e below _ T82 (mkF m 130 #[iv p1, iv p2, iv p3, iv p4, iv 3, rv b62, iv 1] [])
    refine own_st (fun t k => XS.iload X82.here hx rfl (hb hby at_130) rfl k) ?_
    show own_E p e below _ T82 (mkF m 132 #[iv p1, iv p2, iv p3, iv p4, iv 3, rv b62, iv 1] [.int 3])
    refine own_st (fun t k => XS.ifNo X82.here hx rfl (hb hby at_132) rfl (by decide) k) ?_
    show own_E p e below _ T82 (mkF m 135 #[iv p1, iv p2, iv p3, iv p4, iv 3, rv b62, iv 1] [])
    refine own_st (fun t k => XS.iload X82.here hx rfl (hb hby at_135) rfl k) ?_
    show own_E p e below _ T82 (mkF m 137 #[iv p1, iv p2, iv p3, iv p4, iv 3, rv b62, iv 1] [.int 1])
    refine own_st (fun t k => XS.ifNo X82.here hx rfl (hb hby at_137) rfl (by decide) k) ?_
    show own_E p e below _ T82 (mkF m 140 #[iv p1, iv p2, iv p3, iv p4, iv 3, rv b62, iv 1] [])
    refine own_st (fun t k => XS.aload X82.here hx rfl (hb hby at_140) rfl rfl k) ?_
    show own_E p e below _ T82 (mkF m 142 #[iv p1, iv p2, iv p3, iv p4, iv 3, rv b62, iv 1] [.ref b62])
    refine own_st (fun t k => XS.iload X82.here hx rfl (hb hby at_142) rfl k) ?_
    show own_E p e below _ T82 (mkF m 144 #[iv p1, iv p2, iv p3, iv p4, iv 3, rv b62, iv 1] [.int 3, .ref b62])
    refine own_st (fun t k => XS.iconst X82.here hx rfl (hb hby at_144) k) ?_
    show own_E p e below _ T82 (mkF m 145 #[iv p1, iv p2, iv p3, iv p4, iv 3, rv b62, iv 1] [.int 1, .int 3, .ref b62])
    refine own_st (fun t k => XS.isub X82.here hx rfl (hb hby at_145) rfl k) ?_
    show own_E p e below _ T82 (mkF m 146 #[iv p1, iv p2, iv p3, iv p4, iv 3, rv b62, iv 1] [.int 2, .ref b62])
    obtain ⟨cq83, kq83, q83a, q83b, q83c⟩ := isOf hZ e82 P78_0
    obtain ⟨_, _, ⟨T83, L83, k83, n83⟩, -, X83, ⟨Lc83, hQ83, l83, y83, z83⟩, st83⟩ := X82.virtualBack hx (y := own_y6) (z := own_y6) hown (mvT hZ (own_w hw 35 rfl)) (mvT hZ (own_w hw 36 rfl)) (notFace_of_selects (args := #[]) (mvT hZ (own_w hw 38 rfl))) (mvT hZ (own_w hw 38 rfl)) (mvT hZ (own_w hw 37 rfl)) (by decide) (backOf (W := 0) (own_get16_2 l Z a0 hw [] b62 b64_o0 k64_o1 (0 : Int32) (0 : Int32) p3 p1 p2 (0 : Int32) (0 : Int32) (0 : Int32) (0 : Int32) (0 : Int32) (0 : Int32) (0 : Int32) (0 : Int32) (0 : Int32) (0 : Int32) (0 : Int32) T78.heap n0 Z79 P78_1 P78_3) hZ (own_w hw 39 rfl) (own_w hw 3 rfl) (by decide) (by decide)) q83a q83c (g := (mkF m 146 #[iv p1, iv p2, iv p3, iv p4, iv 3, rv b62, iv 1] [.int 2, .ref b62])) rfl (by rw [hml]; rfl) (Steps.refl _) (argsL := [(.int (2 : Int32))]) (rest := []) (lenOf own_pd_2 rfl) rfl (by show 2 * 0 + _ ≤ _; exact Nat.le_of_eq rfl) (hb hby at_146) (fun _ _ => ⟨rfl, e82, (by decide : 2 + 0 ≤ _), (by decide : 18 + 0 ≤ _)⟩)
    dsimp only [Pt.U, Pt.locs, Pt.cells, Pt.slots] at X83 l83 y83 z83 st83 hQ83
    subst l83 y83 z83
    obtain ⟨hR83, e83, rfl⟩ := hQ83
    have N83 := Fr.app N82 (Fr.nil n0)
    obtain rfl := hR83
    refine own_tr st83 ?_
    show own_E p e below _ T83 (mkF m 149 #[iv p1, iv p2, iv p3, iv p4, iv 3, rv b62, iv 1] [.int p3])
    refine own_st (fun t k => XS.iloadN X83.here hx rfl (hb hby at_149) rfl k) ?_
    show own_E p e below _ T83 (mkF m 150 #[iv p1, iv p2, iv p3, iv p4, iv 3, rv b62, iv 1] [.int p3, .int p3])
    refine own_st (fun t k => XS.icmpNo X83.here hx rfl (hb hby at_150) rfl (teq rfl).2 k) ?_
    show own_E p e below _ T83 (mkF m 153 #[iv p1, iv p2, iv p3, iv p4, iv 3, rv b62, iv 1] [])
    refine own_st (fun t k => XS.iconst X83.here hx rfl (hb hby at_153) k) ?_
    show own_E p e below _ T83 (mkF m 154 #[iv p1, iv p2, iv p3, iv p4, iv 3, rv b62, iv 1] [.int 1])
    refine own_st (fun t k => XS.goto X83.here hx rfl (pc0 := 154) (pc' := 158) rfl (hb hby at_154) (by decide) (by decide) k) ?_
    show own_E p e below _ T83 (mkF m 158 #[iv p1, iv p2, iv p3, iv p4, iv 3, rv b62, iv 1] [.int 1])
    refine own_st (fun t k => XS.istore X83.here hx rfl (hb hby at_158) rfl (l' := #[iv p1, iv p2, iv p3, iv p4, iv 3, rv b62, iv 1]) rfl k) ?_
    show own_E p e below _ T83 (mkF m 160 #[iv p1, iv p2, iv p3, iv p4, iv 3, rv b62, iv 1] [])
    refine own_st (fun t k => XS.iload X83.here hx rfl (hb hby at_160) rfl k) ?_
    show own_E p e below _ T83 (mkF m 162 #[iv p1, iv p2, iv p3, iv p4, iv 3, rv b62, iv 1] [.int 1])
    refine own_retS X83 hx Bd.notSynchronized Bd.returns rfl (by decide) (hb hby at_162) (by decide) (by decide) ?_
    exact ⟨rfl, N83⟩
  · rw [hs1]
    show own_E p e below _ s₁ (mkF m 9 #[iv p1, iv p2, iv p3, iv p4, iv 4, .unset, .unset] [])
    obtain ⟨T84, h84, X84, e84, E84, A84, D84, -, st84⟩ := newO X0 hx hZ hown (own_w hw 1 rfl) (own_w hw 2 rfl) (own_w hw 3 rfl) e0 (g := (mkF m 9 #[iv p1, iv p2, iv p3, iv p4, iv 4, .unset, .unset] [])) rfl (hb hby at_9) (by decide) (by decide)
    obtain ⟨b84, g84⟩ : ∃ z, z = h0.size := ⟨_, rfl⟩
    rw [← g84] at A84 D84 st84
    have g_b84 : n0 ≤ b84 := Nat.le_trans Z0 (Nat.le_of_eq g84.symm)
    have Z85 := Nat.le_trans Z0 E84.1
    have F_values_b84 : Fld Z h84 b84 "com/example/kalchas/kalchas/IntList" "values" "[I" .null := D84 (Or.inl (own_w hw 12 rfl)) (ty := (.array .int)) (by decide)
    have F_size_b84 : Fld Z h84 b84 "com/example/kalchas/kalchas/IntList" "size" "I" (.int (0 : Int32)) := D84 (Or.inl (own_w hw 19 rfl)) (ty := .int) (by decide)
    refine own_st st84 ?_
    show own_E p e below _ T84 (mkF m 12 #[iv p1, iv p2, iv p3, iv p4, iv 4, .unset, .unset] [.ref b84])
    refine own_st (fun t k => XS.dup X84.here hx rfl (hb hby at_12) rfl rfl k) ?_
    show own_E p e below _ T84 (mkF m 13 #[iv p1, iv p2, iv p3, iv p4, iv 4, .unset, .unset] [.ref b84, .ref b84])
    obtain ⟨_, _, ⟨T86, L86, k86, n86⟩, -, X86, ⟨Lc86, hQ86, l86, y86, z86⟩, st86⟩ := X84.specialBack hx (y := own_y2) rfl hown (mvT hZ (own_w hw 4 rfl)) (mvT hZ (own_w hw 5 rfl)) (mvT hZ (own_w hw 6 rfl)) (by decide) (backOf (W := 1) (own_init l Z a0 hw [] b84 h84 n0 Z85 A84 F_values_b84 F_size_b84 g_b84) hZ (own_w hw 6 rfl) (own_w hw 3 rfl) (by decide) (by decide)) (g := (mkF m 13 #[iv p1, iv p2, iv p3, iv p4, iv 4, .unset, .unset] [.ref b84, .ref b84])) rfl (by rw [hml]; rfl) (Steps.refl _) (a := b84) (argsL := []) (rest := [(.ref b84)]) (lenOf own_pd_1 rfl) rfl (by show 2 * 0 + _ ≤ _; exact Nat.le_of_eq rfl) (hb hby at_13) (fun _ _ => ⟨rfl, e84, (by decide : 1 + 1 ≤ _), (by decide : 2 + 16 ≤ _)⟩)
    dsimp only [Pt.U, Pt.locs, Pt.cells, Pt.slots] at X86 l86 y86 z86 st86 hQ86
    subst l86 y86 z86
    obtain ⟨b86_o0, k86_o1, rfl, Nq86, Kq86, sz86_0, P86_0, P86_1, P86_2, P86_3⟩ := hQ86
    have N86 := Fr.app (Fr.nil n0) Nq86
    have ne_b84_b86_o0 : b84 ≠ b86_o0 := Nat.ne_of_lt (Nat.lt_of_lt_of_le A84.lt sz86_0)
    have g_b86_o0 : n0 ≤ b86_o0 := Nat.le_trans Z85 sz86_0
    have e86 : T86.heap = T86.heap := rfl
    have Z87 := Nat.le_trans Z85 Kq86.1
    refine own_tr st86 ?_
    show own_E p e below _ T86 (mkF m 16 #[iv p1, iv p2, iv p3, iv p4, iv 4, .unset, .unset] [.ref b84])
    refine own_st (fun t k => XS.astore X86.here hx rfl (hb hby at_16) rfl rfl (l' := #[iv p1, iv p2, iv p3, iv p4, iv 4, rv b84, .unset]) rfl k) ?_
    show own_E p e below _ T86 (mkF m 18 #[iv p1, iv p2, iv p3, iv p4, iv 4, rv b84, .unset] [])
    refine own_st (fun t k => XS.aload X86.here hx rfl (hb hby at_18) rfl rfl k) ?_
    show own_E p e below _ T86 (mkF m 20 #[iv p1, iv p2, iv p3, iv p4, iv 4, rv b84, .unset] [.ref b84])
    refine own_st (fun t k => XS.iload X86.here hx rfl (hb hby at_20) rfl k) ?_
    show own_E p e below _ T86 (mkF m 22 #[iv p1, iv p2, iv p3, iv p4, iv 4, rv b84, .unset] [.int 4, .ref b84])
    obtain ⟨cq88, kq88, q88a, q88b, q88c⟩ := isOf hZ e86 P86_0
    obtain ⟨_, _, ⟨T88, L88, k88, n88⟩, -, X88, ⟨Lc88, hQ88, l88, y88, z88⟩, st88⟩ := X86.virtualBack hx (y := own_y3) (z := own_y3) hown (mvT hZ (own_w hw 13 rfl)) (mvT hZ (own_w hw 14 rfl)) (notFace_of_selects (args := #[]) (mvT hZ (own_w hw 16 rfl))) (mvT hZ (own_w hw 16 rfl)) (mvT hZ (own_w hw 15 rfl)) (by decide) (backOf (W := 0) (own_trunc l Z a0 hw [] b84 b86_o0 (4 : Int32) (0 : Int32) T86.heap n0 Z87 P86_0 P86_1 P86_2 g_b84) hZ (own_w hw 17 rfl) (own_w hw 3 rfl) (by decide) (by decide)) q88a q88c (g := (mkF m 22 #[iv p1, iv p2, iv p3, iv p4, iv 4, rv b84, .unset] [.int 4, .ref b84])) rfl (by rw [hml]; rfl) (Steps.refl _) (argsL := [(.int (4 : Int32))]) (rest := []) (lenOf own_pd_3 rfl) rfl (by show 2 * 0 + _ ≤ _; exact Nat.le_of_eq rfl) (hb hby at_22) (fun _ _ => ⟨rfl, e86, (by decide : 2 + 0 ≤ _), (by decide : 18 + 0 ≤ _)⟩)
    dsimp only [Pt.U, Pt.locs, Pt.cells, Pt.slots] at X88 l88 y88 z88 st88 hQ88
    subst l88 y88 z88
    obtain ⟨rfl, Nq88, Kq88, P88_0, P88_1, P88_2⟩ := hQ88
    have N88 := Fr.app N86 Nq88
    have e88 : T88.heap = T88.heap := rfl
    have Z89 := Nat.le_trans Z87 Kq88.1
    refine own_tr st88 ?_
    show own_E p e below _ T88 (mkF m 25 #[iv p1, iv p2, iv p3, iv p4, iv 4, rv b84, .unset] [])
    refine own_st (fun t k => XS.iload X88.here hx rfl (hb hby at_25) rfl k) ?_
    show own_E p e below _ T88 (mkF m 27 #[iv p1, iv p2, iv p3, iv p4, iv 4, rv b84, .unset] [.int 4])
    refine own_st (fun t k => XS.ifNo X88.here hx rfl (hb hby at_27) rfl (by decide) k) ?_
    show own_E p e below _ T88 (mkF m 30 #[iv p1, iv p2, iv p3, iv p4, iv 4, rv b84, .unset] [])
    refine own_st (fun t k => XS.aload X88.here hx rfl (hb hby at_30) rfl rfl k) ?_
    show own_E p e below _ T88 (mkF m 32 #[iv p1, iv p2, iv p3, iv p4, iv 4, rv b84, .unset] [.ref b84])
    refine own_st (fun t k => XS.iload X88.here hx rfl (hb hby at_32) rfl k) ?_
    show own_E p e below _ T88 (mkF m 34 #[iv p1, iv p2, iv p3, iv p4, iv 4, rv b84, .unset] [.int 4, .ref b84])
    refine own_st (fun t k => XS.iconst X88.here hx rfl (hb hby at_34) k) ?_
    show own_E p e below _ T88 (mkF m 35 #[iv p1, iv p2, iv p3, iv p4, iv 4, rv b84, .unset] [.int 1, .int 4, .ref b84])
    refine own_st (fun t k => XS.isub X88.here hx rfl (hb hby at_35) rfl k) ?_
    show own_E p e below _ T88 (mkF m 36 #[iv p1, iv p2, iv p3, iv p4, iv 4, rv b84, .unset] [.int 3, .ref b84])
    refine own_st (fun t k => XS.iloadN X88.here hx rfl (hb hby at_36) rfl k) ?_
    show own_E p e below _ T88 (mkF m 37 #[iv p1, iv p2, iv p3, iv p4, iv 4, rv b84, .unset] [.int p3, .int 3, .ref b84])
    have B90 := (P86_3.keep Kq88 (ninS (Ne.symm ne_b84_b86_o0) nin0))
    obtain ⟨cq91, kq91, q91a, q91b, q91c⟩ := isOf hZ e88 P88_0
    obtain ⟨_, _, ⟨T91, L91, k91, n91⟩, -, X91, ⟨Lc91, hQ91, l91, y91, z91⟩, st91⟩ := X88.virtualBack hx (y := own_y4) (z := own_y4) hown (mvT hZ (own_w hw 20 rfl)) (mvT hZ (own_w hw 21 rfl)) (notFace_of_selects (args := #[]) (mvT hZ (own_w hw 23 rfl))) (mvT hZ (own_w hw 23 rfl)) (mvT hZ (own_w hw 22 rfl)) (by decide) (backOf (W := 0) (own_set3 l Z a0 hw [] b84 b86_o0 k86_o1 p3 (0 : Int32) (0 : Int32) (0 : Int32) (0 : Int32) (0 : Int32) (0 : Int32) (0 : Int32) (0 : Int32) (0 : Int32) (0 : Int32) (0 : Int32) (0 : Int32) (0 : Int32) (0 : Int32) (0 : Int32) (0 : Int32) T88.heap n0 Z89 P88_1 B90 ne_b84_b86_o0 g_b86_o0) hZ (own_w hw 24 rfl) (own_w hw 3 rfl) (by decide) (by decide)) q91a q91c (g := (mkF m 37 #[iv p1, iv p2, iv p3, iv p4, iv 4, rv b84, .unset] [.int p3, .int 3, .ref b84])) rfl (by rw [hml]; rfl) (Steps.refl _) (argsL := [(.int (3 : Int32)), (.int p3)]) (rest := []) (lenOf own_pd_5 rfl) rfl (by show 2 * 0 + _ ≤ _; exact Nat.le_of_eq rfl) (hb hby at_37) (fun _ _ => ⟨rfl, e88, (by decide : 2 + 0 ≤ _), (by decide : 18 + 0 ≤ _)⟩)
    dsimp only [Pt.U, Pt.locs, Pt.cells, Pt.slots] at X91 l91 y91 z91 st91 hQ91
    subst l91 y91 z91
    obtain ⟨rfl, Nq91, Kq91, P91_0⟩ := hQ91
    have N91 := Fr.app N88 Nq91
    have e91 : T91.heap = T91.heap := rfl
    have Z92 := Nat.le_trans Z89 Kq91.1
    refine own_tr st91 ?_
    show own_E p e below _ T91 (mkF m 40 #[iv p1, iv p2, iv p3, iv p4, iv 4, rv b84, .unset] [])
    refine own_st (fun t k => XS.aload X91.here hx rfl (hb hby at_40) rfl rfl k) ?_
    show own_E p e below _ T91 (mkF m 42 #[iv p1, iv p2, iv p3, iv p4, iv 4, rv b84, .unset] [.ref b84])
    refine own_st (fun t k => XS.iloadN X91.here hx rfl (hb hby at_42) rfl k) ?_
    show own_E p e below _ T91 (mkF m 43 #[iv p1, iv p2, iv p3, iv p4, iv 4, rv b84, .unset] [.int p1, .ref b84])
    have B93 := (P88_0.keep Kq91)
    have B94 := (P88_1.keep Kq91 (ninS ne_b84_b86_o0 nin0))
    have B95 := (P88_2.keep Kq91 (ninS ne_b84_b86_o0 nin0))
    obtain ⟨cq96, kq96, q96a, q96b, q96c⟩ := isOf hZ e91 B93
    obtain ⟨_, _, ⟨T96, L96, k96, n96⟩, -, X96, ⟨Lc96, hQ96, l96, y96, z96⟩, st96⟩ := X91.virtualBack hx (y := own_y5) (z := own_y5) hown (mvT hZ (own_w hw 25 rfl)) (mvT hZ (own_w hw 26 rfl)) (notFace_of_selects (args := #[]) (mvT hZ (own_w hw 28 rfl))) (mvT hZ (own_w hw 28 rfl)) (mvT hZ (own_w hw 27 rfl)) (by decide) (backOf (W := 0) (own_add4 l Z a0 hw [] b84 b86_o0 k86_o1 p1 (0 : Int32) (0 : Int32) (0 : Int32) p3 (0 : Int32) (0 : Int32) (0 : Int32) (0 : Int32) (0 : Int32) (0 : Int32) (0 : Int32) (0 : Int32) (0 : Int32) (0 : Int32) (0 : Int32) (0 : Int32) T91.heap n0 Z92 B93 B94 B95 P91_0 ne_b84_b86_o0 g_b84 g_b86_o0) hZ (own_w hw 29 rfl) (own_w hw 3 rfl) (by decide) (by decide)) q96a q96c (g := (mkF m 43 #[iv p1, iv p2, iv p3, iv p4, iv 4, rv b84, .unset] [.int p1, .ref b84])) rfl (by rw [hml]; rfl) (Steps.refl _) (argsL := [(.int p1)]) (rest := []) (lenOf own_pd_3 rfl) rfl (by show 2 * 0 + _ ≤ _; exact Nat.le_of_eq rfl) (hb hby at_43) (fun _ _ => ⟨rfl, e91, (by decide : 2 + 0 ≤ _), (by decide : 18 + 0 ≤ _)⟩)
    dsimp only [Pt.U, Pt.locs, Pt.cells, Pt.slots] at X96 l96 y96 z96 st96 hQ96
    subst l96 y96 z96
    obtain ⟨rfl, Nq96, Kq96, P96_0, P96_1, P96_2, P96_3⟩ := hQ96
    have N96 := Fr.app N91 Nq96
    have e96 : T96.heap = T96.heap := rfl
    have Z97 := Nat.le_trans Z92 Kq96.1
    refine own_tr st96 ?_
    show own_E p e below _ T96 (mkF m 46 #[iv p1, iv p2, iv p3, iv p4, iv 4, rv b84, .unset] [])
    refine own_st (fun t k => XS.aload X96.here hx rfl (hb hby at_46) rfl rfl k) ?_
    show own_E p e below _ T96 (mkF m 48 #[iv p1, iv p2, iv p3, iv p4, iv 4, rv b84, .unset] [.ref b84])
    obtain ⟨cq98, kq98, q98a, q98b, q98c⟩ := isOf hZ e96 P96_0
    obtain ⟨_, _, ⟨T98, L98, k98, n98⟩, -, X98, ⟨Lc98, hQ98, l98, y98, z98⟩, st98⟩ := X96.virtualBack hx (y := own_y7) (z := own_y7) hown (mvT hZ (own_w hw 30 rfl)) (mvT hZ (own_w hw 31 rfl)) (notFace_of_selects (args := #[]) (mvT hZ (own_w hw 33 rfl))) (mvT hZ (own_w hw 33 rfl)) (mvT hZ (own_w hw 32 rfl)) (by decide) (backOf (W := 0) (own_size l Z a0 hw [] b84 (5 : Int32) T96.heap n0 Z97 P96_2) hZ (own_w hw 34 rfl) (own_w hw 3 rfl) (by decide) (by decide)) q98a q98c (g := (mkF m 48 #[iv p1, iv p2, iv p3, iv p4, iv 4, rv b84, .unset] [.ref b84])) rfl (by rw [hml]; rfl) (Steps.refl _) (argsL := []) (rest := []) (lenOf own_pd_0 rfl) rfl (by show 2 * 0 + _ ≤ _; exact Nat.le_of_eq rfl) (hb hby at_48) (fun _ _ => ⟨rfl, e96, (by decide : 2 + 0 ≤ _), (by decide : 18 + 0 ≤ _)⟩)
    dsimp only [Pt.U, Pt.locs, Pt.cells, Pt.slots] at X98 l98 y98 z98 st98 hQ98
    subst l98 y98 z98
    obtain ⟨hR98, e98, rfl⟩ := hQ98
    have N98 := Fr.app N96 (Fr.nil n0)
    obtain rfl := hR98
    refine own_tr st98 ?_
    show own_E p e below _ T98 (mkF m 51 #[iv p1, iv p2, iv p3, iv p4, iv 4, rv b84, .unset] [.int 5])
    refine own_st (fun t k => XS.iload X98.here hx rfl (hb hby at_51) rfl k) ?_
    show own_E p e below _ T98 (mkF m 53 #[iv p1, iv p2, iv p3, iv p4, iv 4, rv b84, .unset] [.int 4, .int 5])
    refine own_st (fun t k => XS.iconst X98.here hx rfl (hb hby at_53) k) ?_
    show own_E p e below _ T98 (mkF m 54 #[iv p1, iv p2, iv p3, iv p4, iv 4, rv b84, .unset] [.int 1, .int 4, .int 5])
    refine own_st (fun t k => XS.iadd X98.here hx rfl (hb hby at_54) rfl k) ?_
    show own_E p e below _ T98 (mkF m 55 #[iv p1, iv p2, iv p3, iv p4, iv 4, rv b84, .unset] [.int 5, .int 5])
    refine own_st (fun t k => XS.icmpNo X98.here hx rfl (hb hby at_55) rfl (by decide) k) ?_
    show own_E p e below _ T98 (mkF m 58 #[iv p1, iv p2, iv p3, iv p4, iv 4, rv b84, .unset] [])
    refine own_st (fun t k => XS.aload X98.here hx rfl (hb hby at_58) rfl rfl k) ?_
    show own_E p e below _ T98 (mkF m 60 #[iv p1, iv p2, iv p3, iv p4, iv 4, rv b84, .unset] [.ref b84])
    refine own_st (fun t k => XS.iload X98.here hx rfl (hb hby at_60) rfl k) ?_
    show own_E p e below _ T98 (mkF m 62 #[iv p1, iv p2, iv p3, iv p4, iv 4, rv b84, .unset] [.int 4, .ref b84])
    obtain ⟨cq99, kq99, q99a, q99b, q99c⟩ := isOf hZ e98 P96_0
    obtain ⟨_, _, ⟨T99, L99, k99, n99⟩, -, X99, ⟨Lc99, hQ99, l99, y99, z99⟩, st99⟩ := X98.virtualBack hx (y := own_y6) (z := own_y6) hown (mvT hZ (own_w hw 35 rfl)) (mvT hZ (own_w hw 36 rfl)) (notFace_of_selects (args := #[]) (mvT hZ (own_w hw 38 rfl))) (mvT hZ (own_w hw 38 rfl)) (mvT hZ (own_w hw 37 rfl)) (by decide) (backOf (W := 0) (own_get16_4 l Z a0 hw [] b84 b86_o0 k86_o1 (0 : Int32) (0 : Int32) (0 : Int32) p3 p1 (0 : Int32) (0 : Int32) (0 : Int32) (0 : Int32) (0 : Int32) (0 : Int32) (0 : Int32) (0 : Int32) (0 : Int32) (0 : Int32) (0 : Int32) T96.heap n0 Z97 P96_1 P96_3) hZ (own_w hw 39 rfl) (own_w hw 3 rfl) (by decide) (by decide)) q99a q99c (g := (mkF m 62 #[iv p1, iv p2, iv p3, iv p4, iv 4, rv b84, .unset] [.int 4, .ref b84])) rfl (by rw [hml]; rfl) (Steps.refl _) (argsL := [(.int (4 : Int32))]) (rest := []) (lenOf own_pd_2 rfl) rfl (by show 2 * 0 + _ ≤ _; exact Nat.le_of_eq rfl) (hb hby at_62) (fun _ _ => ⟨rfl, e98, (by decide : 2 + 0 ≤ _), (by decide : 18 + 0 ≤ _)⟩)
    dsimp only [Pt.U, Pt.locs, Pt.cells, Pt.slots] at X99 l99 y99 z99 st99 hQ99
    subst l99 y99 z99
    obtain ⟨hR99, e99, rfl⟩ := hQ99
    have N99 := Fr.app N98 (Fr.nil n0)
    obtain rfl := hR99
    refine own_tr st99 ?_
    show own_E p e below _ T99 (mkF m 65 #[iv p1, iv p2, iv p3, iv p4, iv 4, rv b84, .unset] [.int p1])
    refine own_st (fun t k => XS.iloadN X99.here hx rfl (hb hby at_65) rfl k) ?_
    show own_E p e below _ T99 (mkF m 66 #[iv p1, iv p2, iv p3, iv p4, iv 4, rv b84, .unset] [.int p1, .int p1])
    refine own_st (fun t k => XS.icmpNo X99.here hx rfl (hb hby at_66) rfl (teq rfl).2 k) ?_
    show own_E p e below _ T99 (mkF m 69 #[iv p1, iv p2, iv p3, iv p4, iv 4, rv b84, .unset] [])
    refine own_st (fun t k => XS.iconst X99.here hx rfl (hb hby at_69) k) ?_
    show own_E p e below _ T99 (mkF m 70 #[iv p1, iv p2, iv p3, iv p4, iv 4, rv b84, .unset] [.int 1])
    refine own_st (fun t k => XS.goto X99.here hx rfl (pc0 := 70) (pc' := 74) rfl (hb hby at_70) (by decide) (by decide) k) ?_
    show own_E p e below _ T99 (mkF m 74 #[iv p1, iv p2, iv p3, iv p4, iv 4, rv b84, .unset] [.int 1])
    refine own_st (fun t k => XS.istore X99.here hx rfl (hb hby at_74) rfl (l' := #[iv p1, iv p2, iv p3, iv p4, iv 4, rv b84, iv 1]) rfl k) ?_
    show own_E p e below _ T99 (mkF m 76 #[iv p1, iv p2, iv p3, iv p4, iv 4, rv b84, iv 1] [])
    refine own_st (fun t k => XS.aload X99.here hx rfl (hb hby at_76) rfl rfl k) ?_
    show own_E p e below _ T99 (mkF m 78 #[iv p1, iv p2, iv p3, iv p4, iv 4, rv b84, iv 1] [.ref b84])
    refine own_st (fun t k => XS.iloadN X99.here hx rfl (hb hby at_78) rfl k) ?_
    show own_E p e below _ T99 (mkF m 79 #[iv p1, iv p2, iv p3, iv p4, iv 4, rv b84, iv 1] [.int p2, .ref b84])
    obtain ⟨cq100, kq100, q100a, q100b, q100c⟩ := isOf hZ e99 P96_0
    obtain ⟨_, _, ⟨T100, L100, k100, n100⟩, -, X100, ⟨Lc100, hQ100, l100, y100, z100⟩, st100⟩ := X99.virtualBack hx (y := own_y5) (z := own_y5) hown (mvT hZ (own_w hw 25 rfl)) (mvT hZ (own_w hw 26 rfl)) (notFace_of_selects (args := #[]) (mvT hZ (own_w hw 28 rfl))) (mvT hZ (own_w hw 28 rfl)) (mvT hZ (own_w hw 27 rfl)) (by decide) (backOf (W := 0) (own_add5 l Z a0 hw [] b84 b86_o0 k86_o1 p2 (0 : Int32) (0 : Int32) (0 : Int32) p3 p1 (0 : Int32) (0 : Int32) (0 : Int32) (0 : Int32) (0 : Int32) (0 : Int32) (0 : Int32) (0 : Int32) (0 : Int32) (0 : Int32) (0 : Int32) T96.heap n0 Z97 P96_0 P96_1 P96_2 P96_3 ne_b84_b86_o0 g_b84 g_b86_o0) hZ (own_w hw 29 rfl) (own_w hw 3 rfl) (by decide) (by decide)) q100a q100c (g := (mkF m 79 #[iv p1, iv p2, iv p3, iv p4, iv 4, rv b84, iv 1] [.int p2, .ref b84])) rfl (by rw [hml]; rfl) (Steps.refl _) (argsL := [(.int p2)]) (rest := []) (lenOf own_pd_3 rfl) rfl (by show 2 * 0 + _ ≤ _; exact Nat.le_of_eq rfl) (hb hby at_79) (fun _ _ => ⟨rfl, e99, (by decide : 2 + 0 ≤ _), (by decide : 18 + 0 ≤ _)⟩)
    dsimp only [Pt.U, Pt.locs, Pt.cells, Pt.slots] at X100 l100 y100 z100 st100 hQ100
    subst l100 y100 z100
    obtain ⟨rfl, Nq100, Kq100, P100_0, P100_1, P100_2, P100_3⟩ := hQ100
    have N100 := Fr.app N99 Nq100
    have e100 : T100.heap = T100.heap := rfl
    have Z101 := Nat.le_trans Z97 Kq100.1
    refine own_tr st100 ?_
    show own_E p e below _ T100 (mkF m 82 #[iv p1, iv p2, iv p3, iv p4, iv 4, rv b84, iv 1] [])
    refine own_st (fun t k => XS.iload X100.here hx rfl (hb hby at_82) rfl k) ?_
    show own_E p e below _ T100 (mkF m 84 #[iv p1, iv p2, iv p3, iv p4, iv 4, rv b84, iv 1] [.int 1])
    refine own_st (fun t k => XS.ifNo X100.here hx rfl (hb hby at_84) rfl (by decide) k) ?_
    show own_E p e below _ T100 (mkF m 87 #[iv p1, iv p2, iv p3, iv p4, iv 4, rv b84, iv 1] [])
    refine own_st (fun t k => XS.aload X100.here hx rfl (hb hby at_87) rfl rfl k) ?_
    show own_E p e below _ T100 (mkF m 89 #[iv p1, iv p2, iv p3, iv p4, iv 4, rv b84, iv 1] [.ref b84])
    obtain ⟨cq102, kq102, q102a, q102b, q102c⟩ := isOf hZ e100 P100_0
    obtain ⟨_, _, ⟨T102, L102, k102, n102⟩, -, X102, ⟨Lc102, hQ102, l102, y102, z102⟩, st102⟩ := X100.virtualBack hx (y := own_y7) (z := own_y7) hown (mvT hZ (own_w hw 30 rfl)) (mvT hZ (own_w hw 31 rfl)) (notFace_of_selects (args := #[]) (mvT hZ (own_w hw 33 rfl))) (mvT hZ (own_w hw 33 rfl)) (mvT hZ (own_w hw 32 rfl)) (by decide) (backOf (W := 0) (own_size l Z a0 hw [] b84 (6 : Int32) T100.heap n0 Z101 P100_2) hZ (own_w hw 34 rfl) (own_w hw 3 rfl) (by decide) (by decide)) q102a q102c (g := (mkF m 89 #[iv p1, iv p2, iv p3, iv p4, iv 4, rv b84, iv 1] [.ref b84])) rfl (by rw [hml]; rfl) (Steps.refl _) (argsL := []) (rest := []) (lenOf own_pd_0 rfl) rfl (by show 2 * 0 + _ ≤ _; exact Nat.le_of_eq rfl) (hb hby at_89) (fun _ _ => ⟨rfl, e100, (by decide : 2 + 0 ≤ _), (by decide : 18 + 0 ≤ _)⟩)
    dsimp only [Pt.U, Pt.locs, Pt.cells, Pt.slots] at X102 l102 y102 z102 st102 hQ102
    subst l102 y102 z102
    obtain ⟨hR102, e102, rfl⟩ := hQ102
    have N102 := Fr.app N100 (Fr.nil n0)
    obtain rfl := hR102
    refine own_tr st102 ?_
    show own_E p e below _ T102 (mkF m 92 #[iv p1, iv p2, iv p3, iv p4, iv 4, rv b84, iv 1] [.int 6])
    refine own_st (fun t k => XS.iload X102.here hx rfl (hb hby at_92) rfl k) ?_
    show own_E p e below _ T102 (mkF m 94 #[iv p1, iv p2, iv p3, iv p4, iv 4, rv b84, iv 1] [.int 4, .int 6])
    refine own_st (fun t k => XS.iconst X102.here hx rfl (hb hby at_94) k) ?_
    show own_E p e below _ T102 (mkF m 95 #[iv p1, iv p2, iv p3, iv p4, iv 4, rv b84, iv 1] [.int 2, .int 4, .int 6])
    refine own_st (fun t k => XS.iadd X102.here hx rfl (hb hby at_95) rfl k) ?_
    show own_E p e below _ T102 (mkF m 96 #[iv p1, iv p2, iv p3, iv p4, iv 4, rv b84, iv 1] [.int 6, .int 6])
    refine own_st (fun t k => XS.icmpNo X102.here hx rfl (hb hby at_96) rfl (by decide) k) ?_
    show own_E p e below _ T102 (mkF m 99 #[iv p1, iv p2, iv p3, iv p4, iv 4, rv b84, iv 1] [])
    refine own_st (fun t k => XS.aload X102.here hx rfl (hb hby at_99) rfl rfl k) ?_
    show own_E p e below _ T102 (mkF m 101 #[iv p1, iv p2, iv p3, iv p4, iv 4, rv b84, iv 1] [.ref b84])
    refine own_st (fun t k => XS.iload X102.here hx rfl (hb hby at_101) rfl k) ?_
    show own_E p e below _ T102 (mkF m 103 #[iv p1, iv p2, iv p3, iv p4, iv 4, rv b84, iv 1] [.int 4, .ref b84])
    obtain ⟨cq103, kq103, q103a, q103b, q103c⟩ := isOf hZ e102 P100_0
    obtain ⟨_, _, ⟨T103, L103, k103, n103⟩, -, X103, ⟨Lc103, hQ103, l103, y103, z103⟩, st103⟩ := X102.virtualBack hx (y := own_y6) (z := own_y6) hown (mvT hZ (own_w hw 35 rfl)) (mvT hZ (own_w hw 36 rfl)) (notFace_of_selects (args := #[]) (mvT hZ (own_w hw 38 rfl))) (mvT hZ (own_w hw 38 rfl)) (mvT hZ (own_w hw 37 rfl)) (by decide) (backOf (W := 0) (own_get16_4 l Z a0 hw [] b84 b86_o0 k86_o1 (0 : Int32) (0 : Int32) (0 : Int32) p3 p1 p2 (0 : Int32) (0 : Int32) (0 : Int32) (0 : Int32) (0 : Int32) (0 : Int32) (0 : Int32) (0 : Int32) (0 : Int32) (0 : Int32) T100.heap n0 Z101 P100_1 P100_3) hZ (own_w hw 39 rfl) (own_w hw 3 rfl) (by decide) (by decide)) q103a q103c (g := (mkF m 103 #[iv p1, iv p2, iv p3, iv p4, iv 4, rv b84, iv 1] [.int 4, .ref b84])) rfl (by rw [hml]; rfl) (Steps.refl _) (argsL := [(.int (4 : Int32))]) (rest := []) (lenOf own_pd_2 rfl) rfl (by show 2 * 0 + _ ≤ _; exact Nat.le_of_eq rfl) (hb hby at_103) (fun _ _ => ⟨rfl, e102, (by decide : 2 + 0 ≤ _), (by decide : 18 + 0 ≤ _)⟩)
    dsimp only [Pt.U, Pt.locs, Pt.cells, Pt.slots] at X103 l103 y103 z103 st103 hQ103
    subst l103 y103 z103
    obtain ⟨hR103, e103, rfl⟩ := hQ103
    have N103 := Fr.app N102 (Fr.nil n0)
    obtain rfl := hR103
    refine own_tr st103 ?_
    show own_E p e below _ T103 (mkF m 106 #[iv p1, iv p2, iv p3, iv p4, iv 4, rv b84, iv 1] [.int p1])
    refine own_st (fun t k => XS.iloadN X103.here hx rfl (hb hby at_106) rfl k) ?_
    show own_E p e below _ T103 (mkF m 107 #[iv p1, iv p2, iv p3, iv p4, iv 4, rv b84, iv 1] [.int p1, .int p1])
    refine own_st (fun t k => XS.icmpNo X103.here hx rfl (hb hby at_107) rfl (teq rfl).2 k) ?_
    show own_E p e below _ T103 (mkF m 110 #[iv p1, iv p2, iv p3, iv p4, iv 4, rv b84, iv 1] [])
    refine own_st (fun t k => XS.aload X103.here hx rfl (hb hby at_110) rfl rfl k) ?_
    show own_E p e below _ T103 (mkF m 112 #[iv p1, iv p2, iv p3, iv p4, iv 4, rv b84, iv 1] [.ref b84])
    refine own_st (fun t k => XS.iload X103.here hx rfl (hb hby at_112) rfl k) ?_
    show own_E p e below _ T103 (mkF m 114 #[iv p1, iv p2, iv p3, iv p4, iv 4, rv b84, iv 1] [.int 4, .ref b84])
    refine own_st (fun t k => XS.iconst X103.here hx rfl (hb hby at_114) k) ?_
    show own_E p e below _ T103 (mkF m 115 #[iv p1, iv p2, iv p3, iv p4, iv 4, rv b84, iv 1] [.int 1, .int 4, .ref b84])
    refine own_st (fun t k => XS.iadd X103.here hx rfl (hb hby at_115) rfl k) ?_
    show own_E p e below _ T103 (mkF m 116 #[iv p1, iv p2, iv p3, iv p4, iv 4, rv b84, iv 1] [.int 5, .ref b84])
    obtain ⟨cq104, kq104, q104a, q104b, q104c⟩ := isOf hZ e103 P100_0
    obtain ⟨_, _, ⟨T104, L104, k104, n104⟩, -, X104, ⟨Lc104, hQ104, l104, y104, z104⟩, st104⟩ := X103.virtualBack hx (y := own_y6) (z := own_y6) hown (mvT hZ (own_w hw 35 rfl)) (mvT hZ (own_w hw 36 rfl)) (notFace_of_selects (args := #[]) (mvT hZ (own_w hw 38 rfl))) (mvT hZ (own_w hw 38 rfl)) (mvT hZ (own_w hw 37 rfl)) (by decide) (backOf (W := 0) (own_get16_5 l Z a0 hw [] b84 b86_o0 k86_o1 (0 : Int32) (0 : Int32) (0 : Int32) p3 p1 p2 (0 : Int32) (0 : Int32) (0 : Int32) (0 : Int32) (0 : Int32) (0 : Int32) (0 : Int32) (0 : Int32) (0 : Int32) (0 : Int32) T100.heap n0 Z101 P100_1 P100_3) hZ (own_w hw 39 rfl) (own_w hw 3 rfl) (by decide) (by decide)) q104a q104c (g := (mkF m 116 #[iv p1, iv p2, iv p3, iv p4, iv 4, rv b84, iv 1] [.int 5, .ref b84])) rfl (by rw [hml]; rfl) (Steps.refl _) (argsL := [(.int (5 : Int32))]) (rest := []) (lenOf own_pd_2 rfl) rfl (by show 2 * 0 + _ ≤ _; exact Nat.le_of_eq rfl) (hb hby at_116) (fun _ _ => ⟨rfl, e103, (by decide : 2 + 0 ≤ _), (by decide : 18 + 0 ≤ _)⟩)
    dsimp only [Pt.U, Pt.locs, Pt.cells, Pt.slots] at X104 l104 y104 z104 st104 hQ104
    subst l104 y104 z104
    obtain ⟨hR104, e104, rfl⟩ := hQ104
    have N104 := Fr.app N103 (Fr.nil n0)
    obtain rfl := hR104
    refine own_tr st104 ?_
    show own_E p e below _ T104 (mkF m 119 #[iv p1, iv p2, iv p3, iv p4, iv 4, rv b84, iv 1] [.int p2])
    refine own_st (fun t k => XS.iloadN X104.here hx rfl (hb hby at_119) rfl k) ?_
    show own_E p e below _ T104 (mkF m 120 #[iv p1, iv p2, iv p3, iv p4, iv 4, rv b84, iv 1] [.int p2, .int p2])
    refine own_st (fun t k => XS.icmpNo X104.here hx rfl (hb hby at_120) rfl (teq rfl).2 k) ?_
    show own_E p e below _ T104 (mkF m 123 #[iv p1, iv p2, iv p3, iv p4, iv 4, rv b84, iv 1] [])
    refine own_st (fun t k => XS.iconst X104.here hx rfl (hb hby at_123) k) ?_
    show own_E p e below _ T104 (mkF m 124 #[iv p1, iv p2, iv p3, iv p4, iv 4, rv b84, iv 1] [.int 1])
    refine own_st (fun t k => XS.goto X104.here hx rfl (pc0 := 124) (pc' := 128) rfl (hb hby at_124) (by decide) (by decide) k) ?_
    show own_E p e below _ T104 (mkF m 128 #[iv p1, iv p2, iv p3, iv p4, iv 4, rv b84, iv 1] [.int 1])
    refine own_st (fun t k => XS.istore X104.here hx rfl (hb hby at_128) rfl (l' := #[iv p1, iv p2, iv p3, iv p4, iv 4, rv b84, iv 1]) rfl k) ?_
    show own_E p e below _ T104 (mkF m 130 #[iv p1, iv p2, iv p3, iv p4, iv 4, rv b84, iv 1] [])
    refine own_st (fun t k => XS.iload X104.here hx rfl (hb hby at_130) rfl k) ?_
    show own_E p e below _ T104 (mkF m 132 #[iv p1, iv p2, iv p3, iv p4, iv 4, rv b84, iv 1] [.int 4])
    refine own_st (fun t k => XS.ifNo X104.here hx rfl (hb hby at_132) rfl (by decide) k) ?_
    show own_E p e below _ T104 (mkF m 135 #[iv p1, iv p2, iv p3, iv p4, iv 4, rv b84, iv 1] [])
    refine own_st (fun t k => XS.iload X104.here hx rfl (hb hby at_135) rfl k) ?_
    show own_E p e below _ T104 (mkF m 137 #[iv p1, iv p2, iv p3, iv p4, iv 4, rv b84, iv 1] [.int 1])
    refine own_st (fun t k => XS.ifNo X104.here hx rfl (hb hby at_137) rfl (by decide) k) ?_
    show own_E p e below _ T104 (mkF m 140 #[iv p1, iv p2, iv p3, iv p4, iv 4, rv b84, iv 1] [])
    refine own_st (fun t k => XS.aload X104.here hx rfl (hb hby at_140) rfl rfl k) ?_
    show own_E p e below _ T104 (mkF m 142 #[iv p1, iv p2, iv p3, iv p4, iv 4, rv b84, iv 1] [.ref b84])
    refine own_st (fun t k => XS.iload X104.here hx rfl (hb hby at_142) rfl k) ?_
    show own_E p e below _ T104 (mkF m 144 #[iv p1, iv p2, iv p3, iv p4, iv 4, rv b84, iv 1] [.int 4, .ref b84])
    refine own_st (fun t k => XS.iconst X104.here hx rfl (hb hby at_144) k) ?_
    show own_E p e below _ T104 (mkF m 145 #[iv p1, iv p2, iv p3, iv p4, iv 4, rv b84, iv 1] [.int 1, .int 4, .ref b84])
    refine own_st (fun t k => XS.isub X104.here hx rfl (hb hby at_145) rfl k) ?_
    show own_E p e below _ T104 (mkF m 146 #[iv p1, iv p2, iv p3, iv p4, iv 4, rv b84, iv 1] [.int 3, .ref b84])
    obtain ⟨cq105, kq105, q105a, q105b, q105c⟩ := isOf hZ e104 P100_0
    obtain ⟨_, _, ⟨T105, L105, k105, n105⟩, -, X105, ⟨Lc105, hQ105, l105, y105, z105⟩, st105⟩ := X104.virtualBack hx (y := own_y6) (z := own_y6) hown (mvT hZ (own_w hw 35 rfl)) (mvT hZ (own_w hw 36 rfl)) (notFace_of_selects (args := #[]) (mvT hZ (own_w hw 38 rfl))) (mvT hZ (own_w hw 38 rfl)) (mvT hZ (own_w hw 37 rfl)) (by decide) (backOf (W := 0) (own_get16_3 l Z a0 hw [] b84 b86_o0 k86_o1 (0 : Int32) (0 : Int32) (0 : Int32) p3 p1 p2 (0 : Int32) (0 : Int32) (0 : Int32) (0 : Int32) (0 : Int32) (0 : Int32) (0 : Int32) (0 : Int32) (0 : Int32) (0 : Int32) T100.heap n0 Z101 P100_1 P100_3) hZ (own_w hw 39 rfl) (own_w hw 3 rfl) (by decide) (by decide)) q105a q105c (g := (mkF m 146 #[iv p1, iv p2, iv p3, iv p4, iv 4, rv b84, iv 1] [.int 3, .ref b84])) rfl (by rw [hml]; rfl) (Steps.refl _) (argsL := [(.int (3 : Int32))]) (rest := []) (lenOf own_pd_2 rfl) rfl (by show 2 * 0 + _ ≤ _; exact Nat.le_of_eq rfl) (hb hby at_146) (fun _ _ => ⟨rfl, e104, (by decide : 2 + 0 ≤ _), (by decide : 18 + 0 ≤ _)⟩)
    dsimp only [Pt.U, Pt.locs, Pt.cells, Pt.slots] at X105 l105 y105 z105 st105 hQ105
    subst l105 y105 z105
    obtain ⟨hR105, e105, rfl⟩ := hQ105
    have N105 := Fr.app N104 (Fr.nil n0)
    obtain rfl := hR105
    refine own_tr st105 ?_
    show own_E p e below _ T105 (mkF m 149 #[iv p1, iv p2, iv p3, iv p4, iv 4, rv b84, iv 1] [.int p3])
    refine own_st (fun t k => XS.iloadN X105.here hx rfl (hb hby at_149) rfl k) ?_
    show own_E p e below _ T105 (mkF m 150 #[iv p1, iv p2, iv p3, iv p4, iv 4, rv b84, iv 1] [.int p3, .int p3])
    refine own_st (fun t k => XS.icmpNo X105.here hx rfl (hb hby at_150) rfl (teq rfl).2 k) ?_
    show own_E p e below _ T105 (mkF m 153 #[iv p1, iv p2, iv p3, iv p4, iv 4, rv b84, iv 1] [])
    refine own_st (fun t k => XS.iconst X105.here hx rfl (hb hby at_153) k) ?_
    show own_E p e below _ T105 (mkF m 154 #[iv p1, iv p2, iv p3, iv p4, iv 4, rv b84, iv 1] [.int 1])
    refine own_st (fun t k => XS.goto X105.here hx rfl (pc0 := 154) (pc' := 158) rfl (hb hby at_154) (by decide) (by decide) k) ?_
    show own_E p e below _ T105 (mkF m 158 #[iv p1, iv p2, iv p3, iv p4, iv 4, rv b84, iv 1] [.int 1])
    refine own_st (fun t k => XS.istore X105.here hx rfl (hb hby at_158) rfl (l' := #[iv p1, iv p2, iv p3, iv p4, iv 4, rv b84, iv 1]) rfl k) ?_
    show own_E p e below _ T105 (mkF m 160 #[iv p1, iv p2, iv p3, iv p4, iv 4, rv b84, iv 1] [])
    refine own_st (fun t k => XS.iload X105.here hx rfl (hb hby at_160) rfl k) ?_
    show own_E p e below _ T105 (mkF m 162 #[iv p1, iv p2, iv p3, iv p4, iv 4, rv b84, iv 1] [.int 1])
    refine own_retS X105 hx Bd.notSynchronized Bd.returns rfl (by decide) (hb hby at_162) (by decide) (by decide) ?_
    exact ⟨rfl, N105⟩
  · rw [hs1]
    show own_E p e below _ s₁ (mkF m 9 #[iv p1, iv p2, iv p3, iv p4, iv 5, .unset, .unset] [])
    obtain ⟨T106, h106, X106, e106, E106, A106, D106, -, st106⟩ := newO X0 hx hZ hown (own_w hw 1 rfl) (own_w hw 2 rfl) (own_w hw 3 rfl) e0 (g := (mkF m 9 #[iv p1, iv p2, iv p3, iv p4, iv 5, .unset, .unset] [])) rfl (hb hby at_9) (by decide) (by decide)
    obtain ⟨b106, g106⟩ : ∃ z, z = h0.size := ⟨_, rfl⟩
    rw [← g106] at A106 D106 st106
    have g_b106 : n0 ≤ b106 := Nat.le_trans Z0 (Nat.le_of_eq g106.symm)
    have Z107 := Nat.le_trans Z0 E106.1
    have F_values_b106 : Fld Z h106 b106 "com/example/kalchas/kalchas/IntList" "values" "[I" .null := D106 (Or.inl (own_w hw 12 rfl)) (ty := (.array .int)) (by decide)
    have F_size_b106 : Fld Z h106 b106 "com/example/kalchas/kalchas/IntList" "size" "I" (.int (0 : Int32)) := D106 (Or.inl (own_w hw 19 rfl)) (ty := .int) (by decide)
    refine own_st st106 ?_
    show own_E p e below _ T106 (mkF m 12 #[iv p1, iv p2, iv p3, iv p4, iv 5, .unset, .unset] [.ref b106])
    refine own_st (fun t k => XS.dup X106.here hx rfl (hb hby at_12) rfl rfl k) ?_
    show own_E p e below _ T106 (mkF m 13 #[iv p1, iv p2, iv p3, iv p4, iv 5, .unset, .unset] [.ref b106, .ref b106])
    obtain ⟨_, _, ⟨T108, L108, k108, n108⟩, -, X108, ⟨Lc108, hQ108, l108, y108, z108⟩, st108⟩ := X106.specialBack hx (y := own_y2) rfl hown (mvT hZ (own_w hw 4 rfl)) (mvT hZ (own_w hw 5 rfl)) (mvT hZ (own_w hw 6 rfl)) (by decide) (backOf (W := 1) (own_init l Z a0 hw [] b106 h106 n0 Z107 A106 F_values_b106 F_size_b106 g_b106) hZ (own_w hw 6 rfl) (own_w hw 3 rfl) (by decide) (by decide)) (g := (mkF m 13 #[iv p1, iv p2, iv p3, iv p4, iv 5, .unset, .unset] [.ref b106, .ref b106])) rfl (by rw [hml]; rfl) (Steps.refl _) (a := b106) (argsL := []) (rest := [(.ref b106)]) (lenOf own_pd_1 rfl) rfl (by show 2 * 0 + _ ≤ _; exact Nat.le_of_eq rfl) (hb hby at_13) (fun _ _ => ⟨rfl, e106, (by decide : 1 + 1 ≤ _), (by decide : 2 + 16 ≤ _)⟩)
    dsimp only [Pt.U, Pt.locs, Pt.cells, Pt.slots] at X108 l108 y108 z108 st108 hQ108
    subst l108 y108 z108
    obtain ⟨b108_o0, k108_o1, rfl, Nq108, Kq108, sz108_0, P108_0, P108_1, P108_2, P108_3⟩ := hQ108
    have N108 := Fr.app (Fr.nil n0) Nq108
    have ne_b106_b108_o0 : b106 ≠ b108_o0 := Nat.ne_of_lt (Nat.lt_of_lt_of_le A106.lt sz108_0)
    have g_b108_o0 : n0 ≤ b108_o0 := Nat.le_trans Z107 sz108_0
    have e108 : T108.heap = T108.heap := rfl
    have Z109 := Nat.le_trans Z107 Kq108.1
    refine own_tr st108 ?_
    show own_E p e below _ T108 (mkF m 16 #[iv p1, iv p2, iv p3, iv p4, iv 5, .unset, .unset] [.ref b106])
    refine own_st (fun t k => XS.astore X108.here hx rfl (hb hby at_16) rfl rfl (l' := #[iv p1, iv p2, iv p3, iv p4, iv 5, rv b106, .unset]) rfl k) ?_
    show own_E p e below _ T108 (mkF m 18 #[iv p1, iv p2, iv p3, iv p4, iv 5, rv b106, .unset] [])
    refine own_st (fun t k => XS.aload X108.here hx rfl (hb hby at_18) rfl rfl k) ?_
    show own_E p e below _ T108 (mkF m 20 #[iv p1, iv p2, iv p3, iv p4, iv 5, rv b106, .unset] [.ref b106])
    refine own_st (fun t k => XS.iload X108.here hx rfl (hb hby at_20) rfl k) ?_
    show own_E p e below _ T108 (mkF m 22 #[iv p1, iv p2, iv p3, iv p4, iv 5, rv b106, .unset] [.int 5, .ref b106])
    obtain ⟨cq110, kq110, q110a, q110b, q110c⟩ := isOf hZ e108 P108_0
    obtain ⟨_, _, ⟨T110, L110, k110, n110⟩, -, X110, ⟨Lc110, hQ110, l110, y110, z110⟩, st110⟩ := X108.virtualBack hx (y := own_y3) (z := own_y3) hown (mvT hZ (own_w hw 13 rfl)) (mvT hZ (own_w hw 14 rfl)) (notFace_of_selects (args := #[]) (mvT hZ (own_w hw 16 rfl))) (mvT hZ (own_w hw 16 rfl)) (mvT hZ (own_w hw 15 rfl)) (by decide) (backOf (W := 0) (own_trunc l Z a0 hw [] b106 b108_o0 (5 : Int32) (0 : Int32) T108.heap n0 Z109 P108_0 P108_1 P108_2 g_b106) hZ (own_w hw 17 rfl) (own_w hw 3 rfl) (by decide) (by decide)) q110a q110c (g := (mkF m 22 #[iv p1, iv p2, iv p3, iv p4, iv 5, rv b106, .unset] [.int 5, .ref b106])) rfl (by rw [hml]; rfl) (Steps.refl _) (argsL := [(.int (5 : Int32))]) (rest := []) (lenOf own_pd_3 rfl) rfl (by show 2 * 0 + _ ≤ _; exact Nat.le_of_eq rfl) (hb hby at_22) (fun _ _ => ⟨rfl, e108, (by decide : 2 + 0 ≤ _), (by decide : 18 + 0 ≤ _)⟩)
    dsimp only [Pt.U, Pt.locs, Pt.cells, Pt.slots] at X110 l110 y110 z110 st110 hQ110
    subst l110 y110 z110
    obtain ⟨rfl, Nq110, Kq110, P110_0, P110_1, P110_2⟩ := hQ110
    have N110 := Fr.app N108 Nq110
    have e110 : T110.heap = T110.heap := rfl
    have Z111 := Nat.le_trans Z109 Kq110.1
    refine own_tr st110 ?_
    show own_E p e below _ T110 (mkF m 25 #[iv p1, iv p2, iv p3, iv p4, iv 5, rv b106, .unset] [])
    refine own_st (fun t k => XS.iload X110.here hx rfl (hb hby at_25) rfl k) ?_
    show own_E p e below _ T110 (mkF m 27 #[iv p1, iv p2, iv p3, iv p4, iv 5, rv b106, .unset] [.int 5])
    refine own_st (fun t k => XS.ifNo X110.here hx rfl (hb hby at_27) rfl (by decide) k) ?_
    show own_E p e below _ T110 (mkF m 30 #[iv p1, iv p2, iv p3, iv p4, iv 5, rv b106, .unset] [])
    refine own_st (fun t k => XS.aload X110.here hx rfl (hb hby at_30) rfl rfl k) ?_
    show own_E p e below _ T110 (mkF m 32 #[iv p1, iv p2, iv p3, iv p4, iv 5, rv b106, .unset] [.ref b106])
    refine own_st (fun t k => XS.iload X110.here hx rfl (hb hby at_32) rfl k) ?_
    show own_E p e below _ T110 (mkF m 34 #[iv p1, iv p2, iv p3, iv p4, iv 5, rv b106, .unset] [.int 5, .ref b106])
    refine own_st (fun t k => XS.iconst X110.here hx rfl (hb hby at_34) k) ?_
    show own_E p e below _ T110 (mkF m 35 #[iv p1, iv p2, iv p3, iv p4, iv 5, rv b106, .unset] [.int 1, .int 5, .ref b106])
    refine own_st (fun t k => XS.isub X110.here hx rfl (hb hby at_35) rfl k) ?_
    show own_E p e below _ T110 (mkF m 36 #[iv p1, iv p2, iv p3, iv p4, iv 5, rv b106, .unset] [.int 4, .ref b106])
    refine own_st (fun t k => XS.iloadN X110.here hx rfl (hb hby at_36) rfl k) ?_
    show own_E p e below _ T110 (mkF m 37 #[iv p1, iv p2, iv p3, iv p4, iv 5, rv b106, .unset] [.int p3, .int 4, .ref b106])
    have B112 := (P108_3.keep Kq110 (ninS (Ne.symm ne_b106_b108_o0) nin0))
    obtain ⟨cq113, kq113, q113a, q113b, q113c⟩ := isOf hZ e110 P110_0
    obtain ⟨_, _, ⟨T113, L113, k113, n113⟩, -, X113, ⟨Lc113, hQ113, l113, y113, z113⟩, st113⟩ := X110.virtualBack hx (y := own_y4) (z := own_y4) hown (mvT hZ (own_w hw 20 rfl)) (mvT hZ (own_w hw 21 rfl)) (notFace_of_selects (args := #[]) (mvT hZ (own_w hw 23 rfl))) (mvT hZ (own_w hw 23 rfl)) (mvT hZ (own_w hw 22 rfl)) (by decide) (backOf (W := 0) (own_set4 l Z a0 hw [] b106 b108_o0 k108_o1 p3 (0 : Int32) (0 : Int32) (0 : Int32) (0 : Int32) (0 : Int32) (0 : Int32) (0 : Int32) (0 : Int32) (0 : Int32) (0 : Int32) (0 : Int32) (0 : Int32) (0 : Int32) (0 : Int32) (0 : Int32) (0 : Int32) T110.heap n0 Z111 P110_1 B112 ne_b106_b108_o0 g_b108_o0) hZ (own_w hw 24 rfl) (own_w hw 3 rfl) (by decide) (by decide)) q113a q113c (g := (mkF m 37 #[iv p1, iv p2, iv p3, iv p4, iv 5, rv b106, .unset] [.int p3, .int 4, .ref b106])) rfl (by rw [hml]; rfl) (Steps.refl _) (argsL := [(.int (4 : Int32)), (.int p3)]) (rest := []) (lenOf own_pd_5 rfl) rfl (by show 2 * 0 + _ ≤ _; exact Nat.le_of_eq rfl) (hb hby at_37) (fun _ _ => ⟨rfl, e110, (by decide : 2 + 0 ≤ _), (by decide : 18 + 0 ≤ _)⟩)
    dsimp only [Pt.U, Pt.locs, Pt.cells, Pt.slots] at X113 l113 y113 z113 st113 hQ113
    subst l113 y113 z113
    obtain ⟨rfl, Nq113, Kq113, P113_0⟩ := hQ113
    have N113 := Fr.app N110 Nq113
    have e113 : T113.heap = T113.heap := rfl
    have Z114 := Nat.le_trans Z111 Kq113.1
    refine own_tr st113 ?_
    show own_E p e below _ T113 (mkF m 40 #[iv p1, iv p2, iv p3, iv p4, iv 5, rv b106, .unset] [])
    refine own_st (fun t k => XS.aload X113.here hx rfl (hb hby at_40) rfl rfl k) ?_
    show own_E p e below _ T113 (mkF m 42 #[iv p1, iv p2, iv p3, iv p4, iv 5, rv b106, .unset] [.ref b106])
    refine own_st (fun t k => XS.iloadN X113.here hx rfl (hb hby at_42) rfl k) ?_
    show own_E p e below _ T113 (mkF m 43 #[iv p1, iv p2, iv p3, iv p4, iv 5, rv b106, .unset] [.int p1, .ref b106])
    have B115 := (P110_0.keep Kq113)
    have B116 := (P110_1.keep Kq113 (ninS ne_b106_b108_o0 nin0))
    have B117 := (P110_2.keep Kq113 (ninS ne_b106_b108_o0 nin0))
    obtain ⟨cq118, kq118, q118a, q118b, q118c⟩ := isOf hZ e113 B115
    obtain ⟨_, _, ⟨T118, L118, k118, n118⟩, -, X118, ⟨Lc118, hQ118, l118, y118, z118⟩, st118⟩ := X113.virtualBack hx (y := own_y5) (z := own_y5) hown (mvT hZ (own_w hw 25 rfl)) (mvT hZ (own_w hw 26 rfl)) (notFace_of_selects (args := #[]) (mvT hZ (own_w hw 28 rfl))) (mvT hZ (own_w hw 28 rfl)) (mvT hZ (own_w hw 27 rfl)) (by decide) (backOf (W := 0) (own_add5 l Z a0 hw [] b106 b108_o0 k108_o1 p1 (0 : Int32) (0 : Int32) (0 : Int32) (0 : Int32) p3 (0 : Int32) (0 : Int32) (0 : Int32) (0 : Int32) (0 : Int32) (0 : Int32) (0 : Int32) (0 : Int32) (0 : Int32) (0 : Int32) (0 : Int32) T113.heap n0 Z114 B115 B116 B117 P113_0 ne_b106_b108_o0 g_b106 g_b108_o0) hZ (own_w hw 29 rfl) (own_w hw 3 rfl) (by decide) (by decide)) q118a q118c (g := (mkF m 43 #[iv p1, iv p2, iv p3, iv p4, iv 5, rv b106, .unset] [.int p1, .ref b106])) rfl (by rw [hml]; rfl) (Steps.refl _) (argsL := [(.int p1)]) (rest := []) (lenOf own_pd_3 rfl) rfl (by show 2 * 0 + _ ≤ _; exact Nat.le_of_eq rfl) (hb hby at_43) (fun _ _ => ⟨rfl, e113, (by decide : 2 + 0 ≤ _), (by decide : 18 + 0 ≤ _)⟩)
    dsimp only [Pt.U, Pt.locs, Pt.cells, Pt.slots] at X118 l118 y118 z118 st118 hQ118
    subst l118 y118 z118
    obtain ⟨rfl, Nq118, Kq118, P118_0, P118_1, P118_2, P118_3⟩ := hQ118
    have N118 := Fr.app N113 Nq118
    have e118 : T118.heap = T118.heap := rfl
    have Z119 := Nat.le_trans Z114 Kq118.1
    refine own_tr st118 ?_
    show own_E p e below _ T118 (mkF m 46 #[iv p1, iv p2, iv p3, iv p4, iv 5, rv b106, .unset] [])
    refine own_st (fun t k => XS.aload X118.here hx rfl (hb hby at_46) rfl rfl k) ?_
    show own_E p e below _ T118 (mkF m 48 #[iv p1, iv p2, iv p3, iv p4, iv 5, rv b106, .unset] [.ref b106])
    obtain ⟨cq120, kq120, q120a, q120b, q120c⟩ := isOf hZ e118 P118_0
    obtain ⟨_, _, ⟨T120, L120, k120, n120⟩, -, X120, ⟨Lc120, hQ120, l120, y120, z120⟩, st120⟩ := X118.virtualBack hx (y := own_y7) (z := own_y7) hown (mvT hZ (own_w hw 30 rfl)) (mvT hZ (own_w hw 31 rfl)) (notFace_of_selects (args := #[]) (mvT hZ (own_w hw 33 rfl))) (mvT hZ (own_w hw 33 rfl)) (mvT hZ (own_w hw 32 rfl)) (by decide) (backOf (W := 0) (own_size l Z a0 hw [] b106 (6 : Int32) T118.heap n0 Z119 P118_2) hZ (own_w hw 34 rfl) (own_w hw 3 rfl) (by decide) (by decide)) q120a q120c (g := (mkF m 48 #[iv p1, iv p2, iv p3, iv p4, iv 5, rv b106, .unset] [.ref b106])) rfl (by rw [hml]; rfl) (Steps.refl _) (argsL := []) (rest := []) (lenOf own_pd_0 rfl) rfl (by show 2 * 0 + _ ≤ _; exact Nat.le_of_eq rfl) (hb hby at_48) (fun _ _ => ⟨rfl, e118, (by decide : 2 + 0 ≤ _), (by decide : 18 + 0 ≤ _)⟩)
    dsimp only [Pt.U, Pt.locs, Pt.cells, Pt.slots] at X120 l120 y120 z120 st120 hQ120
    subst l120 y120 z120
    obtain ⟨hR120, e120, rfl⟩ := hQ120
    have N120 := Fr.app N118 (Fr.nil n0)
    obtain rfl := hR120
    refine own_tr st120 ?_
    show own_E p e below _ T120 (mkF m 51 #[iv p1, iv p2, iv p3, iv p4, iv 5, rv b106, .unset] [.int 6])
    refine own_st (fun t k => XS.iload X120.here hx rfl (hb hby at_51) rfl k) ?_
    show own_E p e below _ T120 (mkF m 53 #[iv p1, iv p2, iv p3, iv p4, iv 5, rv b106, .unset] [.int 5, .int 6])
    refine own_st (fun t k => XS.iconst X120.here hx rfl (hb hby at_53) k) ?_
    show own_E p e below _ T120 (mkF m 54 #[iv p1, iv p2, iv p3, iv p4, iv 5, rv b106, .unset] [.int 1, .int 5, .int 6])
    refine own_st (fun t k => XS.iadd X120.here hx rfl (hb hby at_54) rfl k) ?_
    show own_E p e below _ T120 (mkF m 55 #[iv p1, iv p2, iv p3, iv p4, iv 5, rv b106, .unset] [.int 6, .int 6])
    refine own_st (fun t k => XS.icmpNo X120.here hx rfl (hb hby at_55) rfl (by decide) k) ?_
    show own_E p e below _ T120 (mkF m 58 #[iv p1, iv p2, iv p3, iv p4, iv 5, rv b106, .unset] [])
    refine own_st (fun t k => XS.aload X120.here hx rfl (hb hby at_58) rfl rfl k) ?_
    show own_E p e below _ T120 (mkF m 60 #[iv p1, iv p2, iv p3, iv p4, iv 5, rv b106, .unset] [.ref b106])
    refine own_st (fun t k => XS.iload X120.here hx rfl (hb hby at_60) rfl k) ?_
    show own_E p e below _ T120 (mkF m 62 #[iv p1, iv p2, iv p3, iv p4, iv 5, rv b106, .unset] [.int 5, .ref b106])
    obtain ⟨cq121, kq121, q121a, q121b, q121c⟩ := isOf hZ e120 P118_0
    obtain ⟨_, _, ⟨T121, L121, k121, n121⟩, -, X121, ⟨Lc121, hQ121, l121, y121, z121⟩, st121⟩ := X120.virtualBack hx (y := own_y6) (z := own_y6) hown (mvT hZ (own_w hw 35 rfl)) (mvT hZ (own_w hw 36 rfl)) (notFace_of_selects (args := #[]) (mvT hZ (own_w hw 38 rfl))) (mvT hZ (own_w hw 38 rfl)) (mvT hZ (own_w hw 37 rfl)) (by decide) (backOf (W := 0) (own_get16_5 l Z a0 hw [] b106 b108_o0 k108_o1 (0 : Int32) (0 : Int32) (0 : Int32) (0 : Int32) p3 p1 (0 : Int32) (0 : Int32) (0 : Int32) (0 : Int32) (0 : Int32) (0 : Int32) (0 : Int32) (0 : Int32) (0 : Int32) (0 : Int32) T118.heap n0 Z119 P118_1 P118_3) hZ (own_w hw 39 rfl) (own_w hw 3 rfl) (by decide) (by decide)) q121a q121c (g := (mkF m 62 #[iv p1, iv p2, iv p3, iv p4, iv 5, rv b106, .unset] [.int 5, .ref b106])) rfl (by rw [hml]; rfl) (Steps.refl _) (argsL := [(.int (5 : Int32))]) (rest := []) (lenOf own_pd_2 rfl) rfl (by show 2 * 0 + _ ≤ _; exact Nat.le_of_eq rfl) (hb hby at_62) (fun _ _ => ⟨rfl, e120, (by decide : 2 + 0 ≤ _), (by decide : 18 + 0 ≤ _)⟩)
    dsimp only [Pt.U, Pt.locs, Pt.cells, Pt.slots] at X121 l121 y121 z121 st121 hQ121
    subst l121 y121 z121
    obtain ⟨hR121, e121, rfl⟩ := hQ121
    have N121 := Fr.app N120 (Fr.nil n0)
    obtain rfl := hR121
    refine own_tr st121 ?_
    show own_E p e below _ T121 (mkF m 65 #[iv p1, iv p2, iv p3, iv p4, iv 5, rv b106, .unset] [.int p1])
    refine own_st (fun t k => XS.iloadN X121.here hx rfl (hb hby at_65) rfl k) ?_
    show own_E p e below _ T121 (mkF m 66 #[iv p1, iv p2, iv p3, iv p4, iv 5, rv b106, .unset] [.int p1, .int p1])
    refine own_st (fun t k => XS.icmpNo X121.here hx rfl (hb hby at_66) rfl (teq rfl).2 k) ?_
    show own_E p e below _ T121 (mkF m 69 #[iv p1, iv p2, iv p3, iv p4, iv 5, rv b106, .unset] [])
    refine own_st (fun t k => XS.iconst X121.here hx rfl (hb hby at_69) k) ?_
    show own_E p e below _ T121 (mkF m 70 #[iv p1, iv p2, iv p3, iv p4, iv 5, rv b106, .unset] [.int 1])
    refine own_st (fun t k => XS.goto X121.here hx rfl (pc0 := 70) (pc' := 74) rfl (hb hby at_70) (by decide) (by decide) k) ?_
    show own_E p e below _ T121 (mkF m 74 #[iv p1, iv p2, iv p3, iv p4, iv 5, rv b106, .unset] [.int 1])
    refine own_st (fun t k => XS.istore X121.here hx rfl (hb hby at_74) rfl (l' := #[iv p1, iv p2, iv p3, iv p4, iv 5, rv b106, iv 1]) rfl k) ?_
    show own_E p e below _ T121 (mkF m 76 #[iv p1, iv p2, iv p3, iv p4, iv 5, rv b106, iv 1] [])
    refine own_st (fun t k => XS.aload X121.here hx rfl (hb hby at_76) rfl rfl k) ?_
    show own_E p e below _ T121 (mkF m 78 #[iv p1, iv p2, iv p3, iv p4, iv 5, rv b106, iv 1] [.ref b106])
    refine own_st (fun t k => XS.iloadN X121.here hx rfl (hb hby at_78) rfl k) ?_
    show own_E p e below _ T121 (mkF m 79 #[iv p1, iv p2, iv p3, iv p4, iv 5, rv b106, iv 1] [.int p2, .ref b106])
    obtain ⟨cq122, kq122, q122a, q122b, q122c⟩ := isOf hZ e121 P118_0
    obtain ⟨_, _, ⟨T122, L122, k122, n122⟩, -, X122, ⟨Lc122, hQ122, l122, y122, z122⟩, st122⟩ := X121.virtualBack hx (y := own_y5) (z := own_y5) hown (mvT hZ (own_w hw 25 rfl)) (mvT hZ (own_w hw 26 rfl)) (notFace_of_selects (args := #[]) (mvT hZ (own_w hw 28 rfl))) (mvT hZ (own_w hw 28 rfl)) (mvT hZ (own_w hw 27 rfl)) (by decide) (backOf (W := 0) (own_add6 l Z a0 hw [] b106 b108_o0 k108_o1 p2 (0 : Int32) (0 : Int32) (0 : Int32) (0 : Int32) p3 p1 (0 : Int32) (0 : Int32) (0 : Int32) (0 : Int32) (0 : Int32) (0 : Int32) (0 : Int32) (0 : Int32) (0 : Int32) (0 : Int32) T118.heap n0 Z119 P118_0 P118_1 P118_2 P118_3 ne_b106_b108_o0 g_b106 g_b108_o0) hZ (own_w hw 29 rfl) (own_w hw 3 rfl) (by decide) (by decide)) q122a q122c (g := (mkF m 79 #[iv p1, iv p2, iv p3, iv p4, iv 5, rv b106, iv 1] [.int p2, .ref b106])) rfl (by rw [hml]; rfl) (Steps.refl _) (argsL := [(.int p2)]) (rest := []) (lenOf own_pd_3 rfl) rfl (by show 2 * 0 + _ ≤ _; exact Nat.le_of_eq rfl) (hb hby at_79) (fun _ _ => ⟨rfl, e121, (by decide : 2 + 0 ≤ _), (by decide : 18 + 0 ≤ _)⟩)
    dsimp only [Pt.U, Pt.locs, Pt.cells, Pt.slots] at X122 l122 y122 z122 st122 hQ122
    subst l122 y122 z122
    obtain ⟨rfl, Nq122, Kq122, P122_0, P122_1, P122_2, P122_3⟩ := hQ122
    have N122 := Fr.app N121 Nq122
    have e122 : T122.heap = T122.heap := rfl
    have Z123 := Nat.le_trans Z119 Kq122.1
    refine own_tr st122 ?_
    show own_E p e below _ T122 (mkF m 82 #[iv p1, iv p2, iv p3, iv p4, iv 5, rv b106, iv 1] [])
    refine own_st (fun t k => XS.iload X122.here hx rfl (hb hby at_82) rfl k) ?_
    show own_E p e below _ T122 (mkF m 84 #[iv p1, iv p2, iv p3, iv p4, iv 5, rv b106, iv 1] [.int 1])
    refine own_st (fun t k => XS.ifNo X122.here hx rfl (hb hby at_84) rfl (by decide) k) ?_
    show own_E p e below _ T122 (mkF m 87 #[iv p1, iv p2, iv p3, iv p4, iv 5, rv b106, iv 1] [])
    refine own_st (fun t k => XS.aload X122.here hx rfl (hb hby at_87) rfl rfl k) ?_
    show own_E p e below _ T122 (mkF m 89 #[iv p1, iv p2, iv p3, iv p4, iv 5, rv b106, iv 1] [.ref b106])
    obtain ⟨cq124, kq124, q124a, q124b, q124c⟩ := isOf hZ e122 P122_0
    obtain ⟨_, _, ⟨T124, L124, k124, n124⟩, -, X124, ⟨Lc124, hQ124, l124, y124, z124⟩, st124⟩ := X122.virtualBack hx (y := own_y7) (z := own_y7) hown (mvT hZ (own_w hw 30 rfl)) (mvT hZ (own_w hw 31 rfl)) (notFace_of_selects (args := #[]) (mvT hZ (own_w hw 33 rfl))) (mvT hZ (own_w hw 33 rfl)) (mvT hZ (own_w hw 32 rfl)) (by decide) (backOf (W := 0) (own_size l Z a0 hw [] b106 (7 : Int32) T122.heap n0 Z123 P122_2) hZ (own_w hw 34 rfl) (own_w hw 3 rfl) (by decide) (by decide)) q124a q124c (g := (mkF m 89 #[iv p1, iv p2, iv p3, iv p4, iv 5, rv b106, iv 1] [.ref b106])) rfl (by rw [hml]; rfl) (Steps.refl _) (argsL := []) (rest := []) (lenOf own_pd_0 rfl) rfl (by show 2 * 0 + _ ≤ _; exact Nat.le_of_eq rfl) (hb hby at_89) (fun _ _ => ⟨rfl, e122, (by decide : 2 + 0 ≤ _), (by decide : 18 + 0 ≤ _)⟩)
    dsimp only [Pt.U, Pt.locs, Pt.cells, Pt.slots] at X124 l124 y124 z124 st124 hQ124
    subst l124 y124 z124
    obtain ⟨hR124, e124, rfl⟩ := hQ124
    have N124 := Fr.app N122 (Fr.nil n0)
    obtain rfl := hR124
    refine own_tr st124 ?_
    show own_E p e below _ T124 (mkF m 92 #[iv p1, iv p2, iv p3, iv p4, iv 5, rv b106, iv 1] [.int 7])
    refine own_st (fun t k => XS.iload X124.here hx rfl (hb hby at_92) rfl k) ?_
    show own_E p e below _ T124 (mkF m 94 #[iv p1, iv p2, iv p3, iv p4, iv 5, rv b106, iv 1] [.int 5, .int 7])
    refine own_st (fun t k => XS.iconst X124.here hx rfl (hb hby at_94) k) ?_
    show own_E p e below _ T124 (mkF m 95 #[iv p1, iv p2, iv p3, iv p4, iv 5, rv b106, iv 1] [.int 2, .int 5, .int 7])
    refine own_st (fun t k => XS.iadd X124.here hx rfl (hb hby at_95) rfl k) ?_
    show own_E p e below _ T124 (mkF m 96 #[iv p1, iv p2, iv p3, iv p4, iv 5, rv b106, iv 1] [.int 7, .int 7])
    refine own_st (fun t k => XS.icmpNo X124.here hx rfl (hb hby at_96) rfl (by decide) k) ?_
    show own_E p e below _ T124 (mkF m 99 #[iv p1, iv p2, iv p3, iv p4, iv 5, rv b106, iv 1] [])
    refine own_st (fun t k => XS.aload X124.here hx rfl (hb hby at_99) rfl rfl k) ?_
    show own_E p e below _ T124 (mkF m 101 #[iv p1, iv p2, iv p3, iv p4, iv 5, rv b106, iv 1] [.ref b106])
    refine own_st (fun t k => XS.iload X124.here hx rfl (hb hby at_101) rfl k) ?_
    show own_E p e below _ T124 (mkF m 103 #[iv p1, iv p2, iv p3, iv p4, iv 5, rv b106, iv 1] [.int 5, .ref b106])
    obtain ⟨cq125, kq125, q125a, q125b, q125c⟩ := isOf hZ e124 P122_0
    obtain ⟨_, _, ⟨T125, L125, k125, n125⟩, -, X125, ⟨Lc125, hQ125, l125, y125, z125⟩, st125⟩ := X124.virtualBack hx (y := own_y6) (z := own_y6) hown (mvT hZ (own_w hw 35 rfl)) (mvT hZ (own_w hw 36 rfl)) (notFace_of_selects (args := #[]) (mvT hZ (own_w hw 38 rfl))) (mvT hZ (own_w hw 38 rfl)) (mvT hZ (own_w hw 37 rfl)) (by decide) (backOf (W := 0) (own_get16_5 l Z a0 hw [] b106 b108_o0 k108_o1 (0 : Int32) (0 : Int32) (0 : Int32) (0 : Int32) p3 p1 p2 (0 : Int32) (0 : Int32) (0 : Int32) (0 : Int32) (0 : Int32) (0 : Int32) (0 : Int32) (0 : Int32) (0 : Int32) T122.heap n0 Z123 P122_1 P122_3) hZ (own_w hw 39 rfl) (own_w hw 3 rfl) (by decide) (by decide)) q125a q125c (g := (mkF m 103 #[iv p1, iv p2, iv p3, iv p4, iv 5, rv b106, iv 1] [.int 5, .ref b106])) rfl (by rw [hml]; rfl) (Steps.refl _) (argsL := [(.int (5 : Int32))]) (rest := []) (lenOf own_pd_2 rfl) rfl (by show 2 * 0 + _ ≤ _; exact Nat.le_of_eq rfl) (hb hby at_103) (fun _ _ => ⟨rfl, e124, (by decide : 2 + 0 ≤ _), (by decide : 18 + 0 ≤ _)⟩)
    dsimp only [Pt.U, Pt.locs, Pt.cells, Pt.slots] at X125 l125 y125 z125 st125 hQ125
    subst l125 y125 z125
    obtain ⟨hR125, e125, rfl⟩ := hQ125
    have N125 := Fr.app N124 (Fr.nil n0)
    obtain rfl := hR125
    refine own_tr st125 ?_
    show own_E p e below _ T125 (mkF m 106 #[iv p1, iv p2, iv p3, iv p4, iv 5, rv b106, iv 1] [.int p1])
    refine own_st (fun t k => XS.iloadN X125.here hx rfl (hb hby at_106) rfl k) ?_
    show own_E p e below _ T125 (mkF m 107 #[iv p1, iv p2, iv p3, iv p4, iv 5, rv b106, iv 1] [.int p1, .int p1])
    refine own_st (fun t k => XS.icmpNo X125.here hx rfl (hb hby at_107) rfl (teq rfl).2 k) ?_
    show own_E p e below _ T125 (mkF m 110 #[iv p1, iv p2, iv p3, iv p4, iv 5, rv b106, iv 1] [])
    refine own_st (fun t k => XS.aload X125.here hx rfl (hb hby at_110) rfl rfl k) ?_
    show own_E p e below _ T125 (mkF m 112 #[iv p1, iv p2, iv p3, iv p4, iv 5, rv b106, iv 1] [.ref b106])
    refine own_st (fun t k => XS.iload X125.here hx rfl (hb hby at_112) rfl k) ?_
    show own_E p e below _ T125 (mkF m 114 #[iv p1, iv p2, iv p3, iv p4, iv 5, rv b106, iv 1] [.int 5, .ref b106])
    refine own_st (fun t k => XS.iconst X125.here hx rfl (hb hby at_114) k) ?_
    show own_E p e below _ T125 (mkF m 115 #[iv p1, iv p2, iv p3, iv p4, iv 5, rv b106, iv 1] [.int 1, .int 5, .ref b106])
    refine own_st (fun t k => XS.iadd X125.here hx rfl (hb hby at_115) rfl k) ?_
    show own_E p e below _ T125 (mkF m 116 #[iv p1, iv p2, iv p3, iv p4, iv 5, rv b106, iv 1] [.int 6, .ref b106])
    obtain ⟨cq126, kq126, q126a, q126b, q126c⟩ := isOf hZ e125 P122_0
    obtain ⟨_, _, ⟨T126, L126, k126, n126⟩, -, X126, ⟨Lc126, hQ126, l126, y126, z126⟩, st126⟩ := X125.virtualBack hx (y := own_y6) (z := own_y6) hown (mvT hZ (own_w hw 35 rfl)) (mvT hZ (own_w hw 36 rfl)) (notFace_of_selects (args := #[]) (mvT hZ (own_w hw 38 rfl))) (mvT hZ (own_w hw 38 rfl)) (mvT hZ (own_w hw 37 rfl)) (by decide) (backOf (W := 0) (own_get16_6 l Z a0 hw [] b106 b108_o0 k108_o1 (0 : Int32) (0 : Int32) (0 : Int32) (0 : Int32) p3 p1 p2 (0 : Int32) (0 : Int32) (0 : Int32) (0 : Int32) (0 : Int32) (0 : Int32) (0 : Int32) (0 : Int32) (0 : Int32) T122.heap n0 Z123 P122_1 P122_3) hZ (own_w hw 39 rfl) (own_w hw 3 rfl) (by decide) (by decide)) q126a q126c (g := (mkF m 116 #[iv p1, iv p2, iv p3, iv p4, iv 5, rv b106, iv 1] [.int 6, .ref b106])) rfl (by rw [hml]; rfl) (Steps.refl _) (argsL := [(.int (6 : Int32))]) (rest := []) (lenOf own_pd_2 rfl) rfl (by show 2 * 0 + _ ≤ _; exact Nat.le_of_eq rfl) (hb hby at_116) (fun _ _ => ⟨rfl, e125, (by decide : 2 + 0 ≤ _), (by decide : 18 + 0 ≤ _)⟩)
    dsimp only [Pt.U, Pt.locs, Pt.cells, Pt.slots] at X126 l126 y126 z126 st126 hQ126
    subst l126 y126 z126
    obtain ⟨hR126, e126, rfl⟩ := hQ126
    have N126 := Fr.app N125 (Fr.nil n0)
    obtain rfl := hR126
    refine own_tr st126 ?_
    show own_E p e below _ T126 (mkF m 119 #[iv p1, iv p2, iv p3, iv p4, iv 5, rv b106, iv 1] [.int p2])
    refine own_st (fun t k => XS.iloadN X126.here hx rfl (hb hby at_119) rfl k) ?_
    show own_E p e below _ T126 (mkF m 120 #[iv p1, iv p2, iv p3, iv p4, iv 5, rv b106, iv 1] [.int p2, .int p2])
    refine own_st (fun t k => XS.icmpNo X126.here hx rfl (hb hby at_120) rfl (teq rfl).2 k) ?_
    show own_E p e below _ T126 (mkF m 123 #[iv p1, iv p2, iv p3, iv p4, iv 5, rv b106, iv 1] [])
    refine own_st (fun t k => XS.iconst X126.here hx rfl (hb hby at_123) k) ?_
    show own_E p e below _ T126 (mkF m 124 #[iv p1, iv p2, iv p3, iv p4, iv 5, rv b106, iv 1] [.int 1])
    refine own_st (fun t k => XS.goto X126.here hx rfl (pc0 := 124) (pc' := 128) rfl (hb hby at_124) (by decide) (by decide) k) ?_
    show own_E p e below _ T126 (mkF m 128 #[iv p1, iv p2, iv p3, iv p4, iv 5, rv b106, iv 1] [.int 1])
    refine own_st (fun t k => XS.istore X126.here hx rfl (hb hby at_128) rfl (l' := #[iv p1, iv p2, iv p3, iv p4, iv 5, rv b106, iv 1]) rfl k) ?_
    show own_E p e below _ T126 (mkF m 130 #[iv p1, iv p2, iv p3, iv p4, iv 5, rv b106, iv 1] [])
    refine own_st (fun t k => XS.iload X126.here hx rfl (hb hby at_130) rfl k) ?_
    show own_E p e below _ T126 (mkF m 132 #[iv p1, iv p2, iv p3, iv p4, iv 5, rv b106, iv 1] [.int 5])
    refine own_st (fun t k => XS.ifNo X126.here hx rfl (hb hby at_132) rfl (by decide) k) ?_
    show own_E p e below _ T126 (mkF m 135 #[iv p1, iv p2, iv p3, iv p4, iv 5, rv b106, iv 1] [])
    refine own_st (fun t k => XS.iload X126.here hx rfl (hb hby at_135) rfl k) ?_
    show own_E p e below _ T126 (mkF m 137 #[iv p1, iv p2, iv p3, iv p4, iv 5, rv b106, iv 1] [.int 1])
    refine own_st (fun t k => XS.ifNo X126.here hx rfl (hb hby at_137) rfl (by decide) k) ?_
    show own_E p e below _ T126 (mkF m 140 #[iv p1, iv p2, iv p3, iv p4, iv 5, rv b106, iv 1] [])
    refine own_st (fun t k => XS.aload X126.here hx rfl (hb hby at_140) rfl rfl k) ?_
    show own_E p e below _ T126 (mkF m 142 #[iv p1, iv p2, iv p3, iv p4, iv 5, rv b106, iv 1] [.ref b106])
    refine own_st (fun t k => XS.iload X126.here hx rfl (hb hby at_142) rfl k) ?_
    show own_E p e below _ T126 (mkF m 144 #[iv p1, iv p2, iv p3, iv p4, iv 5, rv b106, iv 1] [.int 5, .ref b106])
    refine own_st (fun t k => XS.iconst X126.here hx rfl (hb hby at_144) k) ?_
    show own_E p e below _ T126 (mkF m 145 #[iv p1, iv p2, iv p3, iv p4, iv 5, rv b106, iv 1] [.int 1, .int 5, .ref b106])
    refine own_st (fun t k => XS.isub X126.here hx rfl (hb hby at_145) rfl k) ?_
    show own_E p e below _ T126 (mkF m 146 #[iv p1, iv p2, iv p3, iv p4, iv 5, rv b106, iv 1] [.int 4, .ref b106])
    obtain ⟨cq127, kq127, q127a, q127b, q127c⟩ := isOf hZ e126 P122_0
    obtain ⟨_, _, ⟨T127, L127, k127, n127⟩, -, X127, ⟨Lc127, hQ127, l127, y127, z127⟩, st127⟩ := X126.virtualBack hx (y := own_y6) (z := own_y6) hown (mvT hZ (own_w hw 35 rfl)) (mvT hZ (own_w hw 36 rfl)) (notFace_of_selects (args := #[]) (mvT hZ (own_w hw 38 rfl))) (mvT hZ (own_w hw 38 rfl)) (mvT hZ (own_w hw 37 rfl)) (by decide) (backOf (W := 0) (own_get16_4 l Z a0 hw [] b106 b108_o0 k108_o1 (0 : Int32) (0 : Int32) (0 : Int32) (0 : Int32) p3 p1 p2 (0 : Int32) (0 : Int32) (0 : Int32) (0 : Int32) (0 : Int32) (0 : Int32) (0 : Int32) (0 : Int32) (0 : Int32) T122.heap n0 Z123 P122_1 P122_3) hZ (own_w hw 39 rfl) (own_w hw 3 rfl) (by decide) (by decide)) q127a q127c (g := (mkF m 146 #[iv p1, iv p2, iv p3, iv p4, iv 5, rv b106, iv 1] [.int 4, .ref b106])) rfl (by rw [hml]; rfl) (Steps.refl _) (argsL := [(.int (4 : Int32))]) (rest := []) (lenOf own_pd_2 rfl) rfl (by show 2 * 0 + _ ≤ _; exact Nat.le_of_eq rfl) (hb hby at_146) (fun _ _ => ⟨rfl, e126, (by decide : 2 + 0 ≤ _), (by decide : 18 + 0 ≤ _)⟩)
    dsimp only [Pt.U, Pt.locs, Pt.cells, Pt.slots] at X127 l127 y127 z127 st127 hQ127
    subst l127 y127 z127
    obtain ⟨hR127, e127, rfl⟩ := hQ127
    have N127 := Fr.app N126 (Fr.nil n0)
    obtain rfl := hR127
    refine own_tr st127 ?_
    show own_E p e below _ T127 (mkF m 149 #[iv p1, iv p2, iv p3, iv p4, iv 5, rv b106, iv 1] [.int p3])
    refine own_st (fun t k => XS.iloadN X127.here hx rfl (hb hby at_149) rfl k) ?_
    show own_E p e below _ T127 (mkF m 150 #[iv p1, iv p2, iv p3, iv p4, iv 5, rv b106, iv 1] [.int p3, .int p3])
    refine own_st (fun t k => XS.icmpNo X127.here hx rfl (hb hby at_150) rfl (teq rfl).2 k) ?_
    show own_E p e below _ T127 (mkF m 153 #[iv p1, iv p2, iv p3, iv p4, iv 5, rv b106, iv 1] [])
    refine own_st (fun t k => XS.iconst X127.here hx rfl (hb hby at_153) k) ?_
    show own_E p e below _ T127 (mkF m 154 #[iv p1, iv p2, iv p3, iv p4, iv 5, rv b106, iv 1] [.int 1])
    refine own_st (fun t k => XS.goto X127.here hx rfl (pc0 := 154) (pc' := 158) rfl (hb hby at_154) (by decide) (by decide) k) ?_
    show own_E p e below _ T127 (mkF m 158 #[iv p1, iv p2, iv p3, iv p4, iv 5, rv b106, iv 1] [.int 1])
    refine own_st (fun t k => XS.istore X127.here hx rfl (hb hby at_158) rfl (l' := #[iv p1, iv p2, iv p3, iv p4, iv 5, rv b106, iv 1]) rfl k) ?_
    show own_E p e below _ T127 (mkF m 160 #[iv p1, iv p2, iv p3, iv p4, iv 5, rv b106, iv 1] [])
    refine own_st (fun t k => XS.iload X127.here hx rfl (hb hby at_160) rfl k) ?_
    show own_E p e below _ T127 (mkF m 162 #[iv p1, iv p2, iv p3, iv p4, iv 5, rv b106, iv 1] [.int 1])
    refine own_retS X127 hx Bd.notSynchronized Bd.returns rfl (by decide) (hb hby at_162) (by decide) (by decide) ?_
    exact ⟨rfl, N127⟩
  · rw [hs1]
    show own_E p e below _ s₁ (mkF m 9 #[iv p1, iv p2, iv p3, iv p4, iv 6, .unset, .unset] [])
    obtain ⟨T128, h128, X128, e128, E128, A128, D128, -, st128⟩ := newO X0 hx hZ hown (own_w hw 1 rfl) (own_w hw 2 rfl) (own_w hw 3 rfl) e0 (g := (mkF m 9 #[iv p1, iv p2, iv p3, iv p4, iv 6, .unset, .unset] [])) rfl (hb hby at_9) (by decide) (by decide)
    obtain ⟨b128, g128⟩ : ∃ z, z = h0.size := ⟨_, rfl⟩
    rw [← g128] at A128 D128 st128
    have g_b128 : n0 ≤ b128 := Nat.le_trans Z0 (Nat.le_of_eq g128.symm)
    have Z129 := Nat.le_trans Z0 E128.1
    have F_values_b128 : Fld Z h128 b128 "com/example/kalchas/kalchas/IntList" "values" "[I" .null := D128 (Or.inl (own_w hw 12 rfl)) (ty := (.array .int)) (by decide)
    have F_size_b128 : Fld Z h128 b128 "com/example/kalchas/kalchas/IntList" "size" "I" (.int (0 : Int32)) := D128 (Or.inl (own_w hw 19 rfl)) (ty := .int) (by decide)
    refine own_st st128 ?_
    show own_E p e below _ T128 (mkF m 12 #[iv p1, iv p2, iv p3, iv p4, iv 6, .unset, .unset] [.ref b128])
    refine own_st (fun t k => XS.dup X128.here hx rfl (hb hby at_12) rfl rfl k) ?_
    show own_E p e below _ T128 (mkF m 13 #[iv p1, iv p2, iv p3, iv p4, iv 6, .unset, .unset] [.ref b128, .ref b128])
    obtain ⟨_, _, ⟨T130, L130, k130, n130⟩, -, X130, ⟨Lc130, hQ130, l130, y130, z130⟩, st130⟩ := X128.specialBack hx (y := own_y2) rfl hown (mvT hZ (own_w hw 4 rfl)) (mvT hZ (own_w hw 5 rfl)) (mvT hZ (own_w hw 6 rfl)) (by decide) (backOf (W := 1) (own_init l Z a0 hw [] b128 h128 n0 Z129 A128 F_values_b128 F_size_b128 g_b128) hZ (own_w hw 6 rfl) (own_w hw 3 rfl) (by decide) (by decide)) (g := (mkF m 13 #[iv p1, iv p2, iv p3, iv p4, iv 6, .unset, .unset] [.ref b128, .ref b128])) rfl (by rw [hml]; rfl) (Steps.refl _) (a := b128) (argsL := []) (rest := [(.ref b128)]) (lenOf own_pd_1 rfl) rfl (by show 2 * 0 + _ ≤ _; exact Nat.le_of_eq rfl) (hb hby at_13) (fun _ _ => ⟨rfl, e128, (by decide : 1 + 1 ≤ _), (by decide : 2 + 16 ≤ _)⟩)
    dsimp only [Pt.U, Pt.locs, Pt.cells, Pt.slots] at X130 l130 y130 z130 st130 hQ130
    subst l130 y130 z130
    obtain ⟨b130_o0, k130_o1, rfl, Nq130, Kq130, sz130_0, P130_0, P130_1, P130_2, P130_3⟩ := hQ130
    have N130 := Fr.app (Fr.nil n0) Nq130
    have ne_b128_b130_o0 : b128 ≠ b130_o0 := Nat.ne_of_lt (Nat.lt_of_lt_of_le A128.lt sz130_0)
    have g_b130_o0 : n0 ≤ b130_o0 := Nat.le_trans Z129 sz130_0
    have e130 : T130.heap = T130.heap := rfl
    have Z131 := Nat.le_trans Z129 Kq130.1
    refine own_tr st130 ?_
    show own_E p e below _ T130 (mkF m 16 #[iv p1, iv p2, iv p3, iv p4, iv 6, .unset, .unset] [.ref b128])
    refine own_st (fun t k => XS.astore X130.here hx rfl (hb hby at_16) rfl rfl (l' := #[iv p1, iv p2, iv p3, iv p4, iv 6, rv b128, .unset]) rfl k) ?_
    show own_E p e below _ T130 (mkF m 18 #[iv p1, iv p2, iv p3, iv p4, iv 6, rv b128, .unset] [])
    refine own_st (fun t k => XS.aload X130.here hx rfl (hb hby at_18) rfl rfl k) ?_
    show own_E p e below _ T130 (mkF m 20 #[iv p1, iv p2, iv p3, iv p4, iv 6, rv b128, .unset] [.ref b128])
    refine own_st (fun t k => XS.iload X130.here hx rfl (hb hby at_20) rfl k) ?_
    show own_E p e below _ T130 (mkF m 22 #[iv p1, iv p2, iv p3, iv p4, iv 6, rv b128, .unset] [.int 6, .ref b128])
    obtain ⟨cq132, kq132, q132a, q132b, q132c⟩ := isOf hZ e130 P130_0
    obtain ⟨_, _, ⟨T132, L132, k132, n132⟩, -, X132, ⟨Lc132, hQ132, l132, y132, z132⟩, st132⟩ := X130.virtualBack hx (y := own_y3) (z := own_y3) hown (mvT hZ (own_w hw 13 rfl)) (mvT hZ (own_w hw 14 rfl)) (notFace_of_selects (args := #[]) (mvT hZ (own_w hw 16 rfl))) (mvT hZ (own_w hw 16 rfl)) (mvT hZ (own_w hw 15 rfl)) (by decide) (backOf (W := 0) (own_trunc l Z a0 hw [] b128 b130_o0 (6 : Int32) (0 : Int32) T130.heap n0 Z131 P130_0 P130_1 P130_2 g_b128) hZ (own_w hw 17 rfl) (own_w hw 3 rfl) (by decide) (by decide)) q132a q132c (g := (mkF m 22 #[iv p1, iv p2, iv p3, iv p4, iv 6, rv b128, .unset] [.int 6, .ref b128])) rfl (by rw [hml]; rfl) (Steps.refl _) (argsL := [(.int (6 : Int32))]) (rest := []) (lenOf own_pd_3 rfl) rfl (by show 2 * 0 + _ ≤ _; exact Nat.le_of_eq rfl) (hb hby at_22) (fun _ _ => ⟨rfl, e130, (by decide : 2 + 0 ≤ _), (by decide : 18 + 0 ≤ _)⟩)
    dsimp only [Pt.U, Pt.locs, Pt.cells, Pt.slots] at X132 l132 y132 z132 st132 hQ132
    subst l132 y132 z132
    obtain ⟨rfl, Nq132, Kq132, P132_0, P132_1, P132_2⟩ := hQ132
    have N132 := Fr.app N130 Nq132
    have e132 : T132.heap = T132.heap := rfl
    have Z133 := Nat.le_trans Z131 Kq132.1
    refine own_tr st132 ?_
    show own_E p e below _ T132 (mkF m 25 #[iv p1, iv p2, iv p3, iv p4, iv 6, rv b128, .unset] [])
    refine own_st (fun t k => XS.iload X132.here hx rfl (hb hby at_25) rfl k) ?_
    show own_E p e below _ T132 (mkF m 27 #[iv p1, iv p2, iv p3, iv p4, iv 6, rv b128, .unset] [.int 6])
    refine own_st (fun t k => XS.ifNo X132.here hx rfl (hb hby at_27) rfl (by decide) k) ?_
    show own_E p e below _ T132 (mkF m 30 #[iv p1, iv p2, iv p3, iv p4, iv 6, rv b128, .unset] [])
    refine own_st (fun t k => XS.aload X132.here hx rfl (hb hby at_30) rfl rfl k) ?_
    show own_E p e below _ T132 (mkF m 32 #[iv p1, iv p2, iv p3, iv p4, iv 6, rv b128, .unset] [.ref b128])
    refine own_st (fun t k => XS.iload X132.here hx rfl (hb hby at_32) rfl k) ?_
    show own_E p e below _ T132 (mkF m 34 #[iv p1, iv p2, iv p3, iv p4, iv 6, rv b128, .unset] [.int 6, .ref b128])
    refine own_st (fun t k => XS.iconst X132.here hx rfl (hb hby at_34) k) ?_
    show own_E p e below _ T132 (mkF m 35 #[iv p1, iv p2, iv p3, iv p4, iv 6, rv b128, .unset] [.int 1, .int 6, .ref b128])
    refine own_st (fun t k => XS.isub X132.here hx rfl (hb hby at_35) rfl k) ?_
    show own_E p e below _ T132 (mkF m 36 #[iv p1, iv p2, iv p3, iv p4, iv 6, rv b128, .unset] [.int 5, .ref b128])
    refine own_st (fun t k => XS.iloadN X132.here hx rfl (hb hby at_36) rfl k) ?_
    show own_E p e below _ T132 (mkF m 37 #[iv p1, iv p2, iv p3, iv p4, iv 6, rv b128, .unset] [.int p3, .int 5, .ref b128])
    have B134 := (P130_3.keep Kq132 (ninS (Ne.symm ne_b128_b130_o0) nin0))
    obtain ⟨cq135, kq135, q135a, q135b, q135c⟩ := isOf hZ e132 P132_0
    obtain ⟨_, _, ⟨T135, L135, k135, n135⟩, -, X135, ⟨Lc135, hQ135, l135, y135, z135⟩, st135⟩ := X132.virtualBack hx (y := own_y4) (z := own_y4) hown (mvT hZ (own_w hw 20 rfl)) (mvT hZ (own_w hw 21 rfl)) (notFace_of_selects (args := #[]) (mvT hZ (own_w hw 23 rfl))) (mvT hZ (own_w hw 23 rfl)) (mvT hZ (own_w hw 22 rfl)) (by decide) (backOf (W := 0) (own_set5 l Z a0 hw [] b128 b130_o0 k130_o1 p3 (0 : Int32) (0 : Int32) (0 : Int32) (0 : Int32) (0 : Int32) (0 : Int32) (0 : Int32) (0 : Int32) (0 : Int32) (0 : Int32) (0 : Int32) (0 : Int32) (0 : Int32) (0 : Int32) (0 : Int32) (0 : Int32) T132.heap n0 Z133 P132_1 B134 ne_b128_b130_o0 g_b130_o0) hZ (own_w hw 24 rfl) (own_w hw 3 rfl) (by decide) (by decide)) q135a q135c (g := (mkF m 37 #[iv p1, iv p2, iv p3, iv p4, iv 6, rv b128, .unset] [.int p3, .int 5, .ref b128])) rfl (by rw [hml]; rfl) (Steps.refl _) (argsL := [(.int (5 : Int32)), (.int p3)]) (rest := []) (lenOf own_pd_5 rfl) rfl (by show 2 * 0 + _ ≤ _; exact Nat.le_of_eq rfl) (hb hby at_37) (fun _ _ => ⟨rfl, e132, (by decide : 2 + 0 ≤ _), (by decide : 18 + 0 ≤ _)⟩)
    dsimp only [Pt.U, Pt.locs, Pt.cells, Pt.slots] at X135 l135 y135 z135 st135 hQ135
    subst l135 y135 z135
    obtain ⟨rfl, Nq135, Kq135, P135_0⟩ := hQ135
    have N135 := Fr.app N132 Nq135
    have e135 : T135.heap = T135.heap := rfl
    have Z136 := Nat.le_trans Z133 Kq135.1
    refine own_tr st135 ?_
    show own_E p e below _ T135 (mkF m 40 #[iv p1, iv p2, iv p3, iv p4, iv 6, rv b128, .unset] [])
    refine own_st (fun t k => XS.aload X135.here hx rfl (hb hby at_40) rfl rfl k) ?_
    show own_E p e below _ T135 (mkF m 42 #[iv p1, iv p2, iv p3, iv p4, iv 6, rv b128, .unset] [.ref b128])
    refine own_st (fun t k => XS.iloadN X135.here hx rfl (hb hby at_42) rfl k) ?_
    show own_E p e below _ T135 (mkF m 43 #[iv p1, iv p2, iv p3, iv p4, iv 6, rv b128, .unset] [.int p1, .ref b128])
    have B137 := (P132_0.keep Kq135)
    have B138 := (P132_1.keep Kq135 (ninS ne_b128_b130_o0 nin0))
    have B139 := (P132_2.keep Kq135 (ninS ne_b128_b130_o0 nin0))
    obtain ⟨cq140, kq140, q140a, q140b, q140c⟩ := isOf hZ e135 B137
    obtain ⟨_, _, ⟨T140, L140, k140, n140⟩, -, X140, ⟨Lc140, hQ140, l140, y140, z140⟩, st140⟩ := X135.virtualBack hx (y := own_y5) (z := own_y5) hown (mvT hZ (own_w hw 25 rfl)) (mvT hZ (own_w hw 26 rfl)) (notFace_of_selects (args := #[]) (mvT hZ (own_w hw 28 rfl))) (mvT hZ (own_w hw 28 rfl)) (mvT hZ (own_w hw 27 rfl)) (by decide) (backOf (W := 0) (own_add6 l Z a0 hw [] b128 b130_o0 k130_o1 p1 (0 : Int32) (0 : Int32) (0 : Int32) (0 : Int32) (0 : Int32) p3 (0 : Int32) (0 : Int32) (0 : Int32) (0 : Int32) (0 : Int32) (0 : Int32) (0 : Int32) (0 : Int32) (0 : Int32) (0 : Int32) T135.heap n0 Z136 B137 B138 B139 P135_0 ne_b128_b130_o0 g_b128 g_b130_o0) hZ (own_w hw 29 rfl) (own_w hw 3 rfl) (by decide) (by decide)) q140a q140c (g := (mkF m 43 #[iv p1, iv p2, iv p3, iv p4, iv 6, rv b128, .unset] [.int p1, .ref b128])) rfl (by rw [hml]; rfl) (Steps.refl _) (argsL := [(.int p1)]) (rest := []) (lenOf own_pd_3 rfl) rfl (by show 2 * 0 + _ ≤ _; exact Nat.le_of_eq rfl) (hb hby at_43) (fun _ _ => ⟨rfl, e135, (by decide : 2 + 0 ≤ _), (by decide : 18 + 0 ≤ _)⟩)
    dsimp only [Pt.U, Pt.locs, Pt.cells, Pt.slots] at X140 l140 y140 z140 st140 hQ140
    subst l140 y140 z140
    obtain ⟨rfl, Nq140, Kq140, P140_0, P140_1, P140_2, P140_3⟩ := hQ140
    have N140 := Fr.app N135 Nq140
    have e140 : T140.heap = T140.heap := rfl
    have Z141 := Nat.le_trans Z136 Kq140.1
    refine own_tr st140 ?_
    show own_E p e below _ T140 (mkF m 46 #[iv p1, iv p2, iv p3, iv p4, iv 6, rv b128, .unset] [])
    refine own_st (fun t k => XS.aload X140.here hx rfl (hb hby at_46) rfl rfl k) ?_
    show own_E p e below _ T140 (mkF m 48 #[iv p1, iv p2, iv p3, iv p4, iv 6, rv b128, .unset] [.ref b128])
    obtain ⟨cq142, kq142, q142a, q142b, q142c⟩ := isOf hZ e140 P140_0
    obtain ⟨_, _, ⟨T142, L142, k142, n142⟩, -, X142, ⟨Lc142, hQ142, l142, y142, z142⟩, st142⟩ := X140.virtualBack hx (y := own_y7) (z := own_y7) hown (mvT hZ (own_w hw 30 rfl)) (mvT hZ (own_w hw 31 rfl)) (notFace_of_selects (args := #[]) (mvT hZ (own_w hw 33 rfl))) (mvT hZ (own_w hw 33 rfl)) (mvT hZ (own_w hw 32 rfl)) (by decide) (backOf (W := 0) (own_size l Z a0 hw [] b128 (7 : Int32) T140.heap n0 Z141 P140_2) hZ (own_w hw 34 rfl) (own_w hw 3 rfl) (by decide) (by decide)) q142a q142c (g := (mkF m 48 #[iv p1, iv p2, iv p3, iv p4, iv 6, rv b128, .unset] [.ref b128])) rfl (by rw [hml]; rfl) (Steps.refl _) (argsL := []) (rest := []) (lenOf own_pd_0 rfl) rfl (by show 2 * 0 + _ ≤ _; exact Nat.le_of_eq rfl) (hb hby at_48) (fun _ _ => ⟨rfl, e140, (by decide : 2 + 0 ≤ _), (by decide : 18 + 0 ≤ _)⟩)
    dsimp only [Pt.U, Pt.locs, Pt.cells, Pt.slots] at X142 l142 y142 z142 st142 hQ142
    subst l142 y142 z142
    obtain ⟨hR142, e142, rfl⟩ := hQ142
    have N142 := Fr.app N140 (Fr.nil n0)
    obtain rfl := hR142
    refine own_tr st142 ?_
    show own_E p e below _ T142 (mkF m 51 #[iv p1, iv p2, iv p3, iv p4, iv 6, rv b128, .unset] [.int 7])
    refine own_st (fun t k => XS.iload X142.here hx rfl (hb hby at_51) rfl k) ?_
    show own_E p e below _ T142 (mkF m 53 #[iv p1, iv p2, iv p3, iv p4, iv 6, rv b128, .unset] [.int 6, .int 7])
    refine own_st (fun t k => XS.iconst X142.here hx rfl (hb hby at_53) k) ?_
    show own_E p e below _ T142 (mkF m 54 #[iv p1, iv p2, iv p3, iv p4, iv 6, rv b128, .unset] [.int 1, .int 6, .int 7])
    refine own_st (fun t k => XS.iadd X142.here hx rfl (hb hby at_54) rfl k) ?_
    show own_E p e below _ T142 (mkF m 55 #[iv p1, iv p2, iv p3, iv p4, iv 6, rv b128, .unset] [.int 7, .int 7])
    refine own_st (fun t k => XS.icmpNo X142.here hx rfl (hb hby at_55) rfl (by decide) k) ?_
    show own_E p e below _ T142 (mkF m 58 #[iv p1, iv p2, iv p3, iv p4, iv 6, rv b128, .unset] [])
    refine own_st (fun t k => XS.aload X142.here hx rfl (hb hby at_58) rfl rfl k) ?_
    show own_E p e below _ T142 (mkF m 60 #[iv p1, iv p2, iv p3, iv p4, iv 6, rv b128, .unset] [.ref b128])
    refine own_st (fun t k => XS.iload X142.here hx rfl (hb hby at_60) rfl k) ?_
    show own_E p e below _ T142 (mkF m 62 #[iv p1, iv p2, iv p3, iv p4, iv 6, rv b128, .unset] [.int 6, .ref b128])
    obtain ⟨cq143, kq143, q143a, q143b, q143c⟩ := isOf hZ e142 P140_0
    obtain ⟨_, _, ⟨T143, L143, k143, n143⟩, -, X143, ⟨Lc143, hQ143, l143, y143, z143⟩, st143⟩ := X142.virtualBack hx (y := own_y6) (z := own_y6) hown (mvT hZ (own_w hw 35 rfl)) (mvT hZ (own_w hw 36 rfl)) (notFace_of_selects (args := #[]) (mvT hZ (own_w hw 38 rfl))) (mvT hZ (own_w hw 38 rfl)) (mvT hZ (own_w hw 37 rfl)) (by decide) (backOf (W := 0) (own_get16_6 l Z a0 hw [] b128 b130_o0 k130_o1 (0 : Int32) (0 : Int32) (0 : Int32) (0 : Int32) (0 : Int32) p3 p1 (0 : Int32) (0 : Int32) (0 : Int32) (0 : Int32) (0 : Int32) (0 : Int32) (0 : Int32) (0 : Int32) (0 : Int32) T140.heap n0 Z141 P140_1 P140_3) hZ (own_w hw 39 rfl) (own_w hw 3 rfl) (by decide) (by decide)) q143a q143c (g := (mkF m 62 #[iv p1, iv p2, iv p3, iv p4, iv 6, rv b128, .unset] [.int 6, .ref b128])) rfl (by rw [hml]; rfl) (Steps.refl _) (argsL := [(.int (6 : Int32))]) (rest := []) (lenOf own_pd_2 rfl) rfl (by show 2 * 0 + _ ≤ _; exact Nat.le_of_eq rfl) (hb hby at_62) (fun _ _ => ⟨rfl, e142, (by decide : 2 + 0 ≤ _), (by decide : 18 + 0 ≤ _)⟩)
    dsimp only [Pt.U, Pt.locs, Pt.cells, Pt.slots] at X143 l143 y143 z143 st143 hQ143
    subst l143 y143 z143
    obtain ⟨hR143, e143, rfl⟩ := hQ143
    have N143 := Fr.app N142 (Fr.nil n0)
    obtain rfl := hR143
    refine own_tr st143 ?_
    show own_E p e below _ T143 (mkF m 65 #[iv p1, iv p2, iv p3, iv p4, iv 6, rv b128, .unset] [.int p1])
    refine own_st (fun t k => XS.iloadN X143.here hx rfl (hb hby at_65) rfl k) ?_
    show own_E p e below _ T143 (mkF m 66 #[iv p1, iv p2, iv p3, iv p4, iv 6, rv b128, .unset] [.int p1, .int p1])
    refine own_st (fun t k => XS.icmpNo X143.here hx rfl (hb hby at_66) rfl (teq rfl).2 k) ?_
    show own_E p e below _ T143 (mkF m 69 #[iv p1, iv p2, iv p3, iv p4, iv 6, rv b128, .unset] [])
    refine own_st (fun t k => XS.iconst X143.here hx rfl (hb hby at_69) k) ?_
    show own_E p e below _ T143 (mkF m 70 #[iv p1, iv p2, iv p3, iv p4, iv 6, rv b128, .unset] [.int 1])
    refine own_st (fun t k => XS.goto X143.here hx rfl (pc0 := 70) (pc' := 74) rfl (hb hby at_70) (by decide) (by decide) k) ?_
    show own_E p e below _ T143 (mkF m 74 #[iv p1, iv p2, iv p3, iv p4, iv 6, rv b128, .unset] [.int 1])
    refine own_st (fun t k => XS.istore X143.here hx rfl (hb hby at_74) rfl (l' := #[iv p1, iv p2, iv p3, iv p4, iv 6, rv b128, iv 1]) rfl k) ?_
    show own_E p e below _ T143 (mkF m 76 #[iv p1, iv p2, iv p3, iv p4, iv 6, rv b128, iv 1] [])
    refine own_st (fun t k => XS.aload X143.here hx rfl (hb hby at_76) rfl rfl k) ?_
    show own_E p e below _ T143 (mkF m 78 #[iv p1, iv p2, iv p3, iv p4, iv 6, rv b128, iv 1] [.ref b128])
    refine own_st (fun t k => XS.iloadN X143.here hx rfl (hb hby at_78) rfl k) ?_
    show own_E p e below _ T143 (mkF m 79 #[iv p1, iv p2, iv p3, iv p4, iv 6, rv b128, iv 1] [.int p2, .ref b128])
    obtain ⟨cq144, kq144, q144a, q144b, q144c⟩ := isOf hZ e143 P140_0
    obtain ⟨_, _, ⟨T144, L144, k144, n144⟩, -, X144, ⟨Lc144, hQ144, l144, y144, z144⟩, st144⟩ := X143.virtualBack hx (y := own_y5) (z := own_y5) hown (mvT hZ (own_w hw 25 rfl)) (mvT hZ (own_w hw 26 rfl)) (notFace_of_selects (args := #[]) (mvT hZ (own_w hw 28 rfl))) (mvT hZ (own_w hw 28 rfl)) (mvT hZ (own_w hw 27 rfl)) (by decide) (backOf (W := 0) (own_add7 l Z a0 hw [] b128 b130_o0 k130_o1 p2 (0 : Int32) (0 : Int32) (0 : Int32) (0 : Int32) (0 : Int32) p3 p1 (0 : Int32) (0 : Int32) (0 : Int32) (0 : Int32) (0 : Int32) (0 : Int32) (0 : Int32) (0 : Int32) (0 : Int32) T140.heap n0 Z141 P140_0 P140_1 P140_2 P140_3 ne_b128_b130_o0 g_b128 g_b130_o0) hZ (own_w hw 29 rfl) (own_w hw 3 rfl) (by decide) (by decide)) q144a q144c (g := (mkF m 79 #[iv p1, iv p2, iv p3, iv p4, iv 6, rv b128, iv 1] [.int p2, .ref b128])) rfl (by rw [hml]; rfl) (Steps.refl _) (argsL := [(.int p2)]) (rest := []) (lenOf own_pd_3 rfl) rfl (by show 2 * 0 + _ ≤ _; exact Nat.le_of_eq rfl) (hb hby at_79) (fun _ _ => ⟨rfl, e143, (by decide : 2 + 0 ≤ _), (by decide : 18 + 0 ≤ _)⟩)
    dsimp only [Pt.U, Pt.locs, Pt.cells, Pt.slots] at X144 l144 y144 z144 st144 hQ144
    subst l144 y144 z144
    obtain ⟨rfl, Nq144, Kq144, P144_0, P144_1, P144_2, P144_3⟩ := hQ144
    have N144 := Fr.app N143 Nq144
    have e144 : T144.heap = T144.heap := rfl
    have Z145 := Nat.le_trans Z141 Kq144.1
    refine own_tr st144 ?_
    show own_E p e below _ T144 (mkF m 82 #[iv p1, iv p2, iv p3, iv p4, iv 6, rv b128, iv 1] [])
    refine own_st (fun t k => XS.iload X144.here hx rfl (hb hby at_82) rfl k) ?_
    show own_E p e below _ T144 (mkF m 84 #[iv p1, iv p2, iv p3, iv p4, iv 6, rv b128, iv 1] [.int 1])
    refine own_st (fun t k => XS.ifNo X144.here hx rfl (hb hby at_84) rfl (by decide) k) ?_
    show own_E p e below _ T144 (mkF m 87 #[iv p1, iv p2, iv p3, iv p4, iv 6, rv b128, iv 1] [])
    refine own_st (fun t k => XS.aload X144.here hx rfl (hb hby at_87) rfl rfl k) ?_
    show own_E p e below _ T144 (mkF m 89 #[iv p1, iv p2, iv p3, iv p4, iv 6, rv b128, iv 1] [.ref b128])
    obtain ⟨cq146, kq146, q146a, q146b, q146c⟩ := isOf hZ e144 P144_0
    obtain ⟨_, _, ⟨T146, L146, k146, n146⟩, -, X146, ⟨Lc146, hQ146, l146, y146, z146⟩, st146⟩ := X144.virtualBack hx (y := own_y7) (z := own_y7) hown (mvT hZ (own_w hw 30 rfl)) (mvT hZ (own_w hw 31 rfl)) (notFace_of_selects (args := #[]) (mvT hZ (own_w hw 33 rfl))) (mvT hZ (own_w hw 33 rfl)) (mvT hZ (own_w hw 32 rfl)) (by decide) (backOf (W := 0) (own_size l Z a0 hw [] b128 (8 : Int32) T144.heap n0 Z145 P144_2) hZ (own_w hw 34 rfl) (own_w hw 3 rfl) (by decide) (by decide)) q146a q146c (g := (mkF m 89 #[iv p1, iv p2, iv p3, iv p4, iv 6, rv b128, iv 1] [.ref b128])) rfl (by rw [hml]; rfl) (Steps.refl _) (argsL := []) (rest := []) (lenOf own_pd_0 rfl) rfl (by show 2 * 0 + _ ≤ _; exact Nat.le_of_eq rfl) (hb hby at_89) (fun _ _ => ⟨rfl, e144, (by decide : 2 + 0 ≤ _), (by decide : 18 + 0 ≤ _)⟩)
    dsimp only [Pt.U, Pt.locs, Pt.cells, Pt.slots] at X146 l146 y146 z146 st146 hQ146
    subst l146 y146 z146
    obtain ⟨hR146, e146, rfl⟩ := hQ146
    have N146 := Fr.app N144 (Fr.nil n0)
    obtain rfl := hR146
    refine own_tr st146 ?_
    show own_E p e below _ T146 (mkF m 92 #[iv p1, iv p2, iv p3, iv p4, iv 6, rv b128, iv 1] [.int 8])
    refine own_st (fun t k => XS.iload X146.here hx rfl (hb hby at_92) rfl k) ?_
    show own_E p e below _ T146 (mkF m 94 #[iv p1, iv p2, iv p3, iv p4, iv 6, rv b128, iv 1] [.int 6, .int 8])
    refine own_st (fun t k => XS.iconst X146.here hx rfl (hb hby at_94) k) ?_
    show own_E p e below _ T146 (mkF m 95 #[iv p1, iv p2, iv p3, iv p4, iv 6, rv b128, iv 1] [.int 2, .int 6, .int 8])
    refine own_st (fun t k => XS.iadd X146.here hx rfl (hb hby at_95) rfl k) ?_
    show own_E p e below _ T146 (mkF m 96 #[iv p1, iv p2, iv p3, iv p4, iv 6, rv b128, iv 1] [.int 8, .int 8])
    refine own_st (fun t k => XS.icmpNo X146.here hx rfl (hb hby at_96) rfl (by decide) k) ?_
    show own_E p e below _ T146 (mkF m 99 #[iv p1, iv p2, iv p3, iv p4, iv 6, rv b128, iv 1] [])
    refine own_st (fun t k => XS.aload X146.here hx rfl (hb hby at_99) rfl rfl k) ?_
    show own_E p e below _ T146 (mkF m 101 #[iv p1, iv p2, iv p3, iv p4, iv 6, rv b128, iv 1] [.ref b128])
    refine own_st (fun t k => XS.iload X146.here hx rfl (hb hby at_101) rfl k) ?_
    show own_E p e below _ T146 (mkF m 103 #[iv p1, iv p2, iv p3, iv p4, iv 6, rv b128, iv 1] [.int 6, .ref b128])
    obtain ⟨cq147, kq147, q147a, q147b, q147c⟩ := isOf hZ e146 P144_0
    obtain ⟨_, _, ⟨T147, L147, k147, n147⟩, -, X147, ⟨Lc147, hQ147, l147, y147, z147⟩, st147⟩ := X146.virtualBack hx (y := own_y6) (z := own_y6) hown (mvT hZ (own_w hw 35 rfl)) (mvT hZ (own_w hw 36 rfl)) (notFace_of_selects (args := #[]) (mvT hZ (own_w hw 38 rfl))) (mvT hZ (own_w hw 38 rfl)) (mvT hZ (own_w hw 37 rfl)) (by decide) (backOf (W := 0) (own_get16_6 l Z a0 hw [] b128 b130_o0 k130_o1 (0 : Int32) (0 : Int32) (0 : Int32) (0 : Int32) (0 : Int32) p3 p1 p2 (0 : Int32) (0 : Int32) (0 : Int32) (0 : Int32) (0 : Int32) (0 : Int32) (0 : Int32) (0 : Int32) T144.heap n0 Z145 P144_1 P144_3) hZ (own_w hw 39 rfl) (own_w hw 3 rfl) (by decide) (by decide)) q147a q147c (g := (mkF m 103 #[iv p1, iv p2, iv p3, iv p4, iv 6, rv b128, iv 1] [.int 6, .ref b128])) rfl (by rw [hml]; rfl) (Steps.refl _) (argsL := [(.int (6 : Int32))]) (rest := []) (lenOf own_pd_2 rfl) rfl (by show 2 * 0 + _ ≤ _; exact Nat.le_of_eq rfl) (hb hby at_103) (fun _ _ => ⟨rfl, e146, (by decide : 2 + 0 ≤ _), (by decide : 18 + 0 ≤ _)⟩)
    dsimp only [Pt.U, Pt.locs, Pt.cells, Pt.slots] at X147 l147 y147 z147 st147 hQ147
    subst l147 y147 z147
    obtain ⟨hR147, e147, rfl⟩ := hQ147
    have N147 := Fr.app N146 (Fr.nil n0)
    obtain rfl := hR147
    refine own_tr st147 ?_
    show own_E p e below _ T147 (mkF m 106 #[iv p1, iv p2, iv p3, iv p4, iv 6, rv b128, iv 1] [.int p1])
    refine own_st (fun t k => XS.iloadN X147.here hx rfl (hb hby at_106) rfl k) ?_
    show own_E p e below _ T147 (mkF m 107 #[iv p1, iv p2, iv p3, iv p4, iv 6, rv b128, iv 1] [.int p1, .int p1])
    refine own_st (fun t k => XS.icmpNo X147.here hx rfl (hb hby at_107) rfl (teq rfl).2 k) ?_
    show own_E p e below _ T147 (mkF m 110 #[iv p1, iv p2, iv p3, iv p4, iv 6, rv b128, iv 1] [])
    refine own_st (fun t k => XS.aload X147.here hx rfl (hb hby at_110) rfl rfl k) ?_
    show own_E p e below _ T147 (mkF m 112 #[iv p1, iv p2, iv p3, iv p4, iv 6, rv b128, iv 1] [.ref b128])
    refine own_st (fun t k => XS.iload X147.here hx rfl (hb hby at_112) rfl k) ?_
    show own_E p e below _ T147 (mkF m 114 #[iv p1, iv p2, iv p3, iv p4, iv 6, rv b128, iv 1] [.int 6, .ref b128])
    refine own_st (fun t k => XS.iconst X147.here hx rfl (hb hby at_114) k) ?_
    show own_E p e below _ T147 (mkF m 115 #[iv p1, iv p2, iv p3, iv p4, iv 6, rv b128, iv 1] [.int 1, .int 6, .ref b128])
    refine own_st (fun t k => XS.iadd X147.here hx rfl (hb hby at_115) rfl k) ?_
    show own_E p e below _ T147 (mkF m 116 #[iv p1, iv p2, iv p3, iv p4, iv 6, rv b128, iv 1] [.int 7, .ref b128])
    obtain ⟨cq148, kq148, q148a, q148b, q148c⟩ := isOf hZ e147 P144_0
    obtain ⟨_, _, ⟨T148, L148, k148, n148⟩, -, X148, ⟨Lc148, hQ148, l148, y148, z148⟩, st148⟩ := X147.virtualBack hx (y := own_y6) (z := own_y6) hown (mvT hZ (own_w hw 35 rfl)) (mvT hZ (own_w hw 36 rfl)) (notFace_of_selects (args := #[]) (mvT hZ (own_w hw 38 rfl))) (mvT hZ (own_w hw 38 rfl)) (mvT hZ (own_w hw 37 rfl)) (by decide) (backOf (W := 0) (own_get16_7 l Z a0 hw [] b128 b130_o0 k130_o1 (0 : Int32) (0 : Int32) (0 : Int32) (0 : Int32) (0 : Int32) p3 p1 p2 (0 : Int32) (0 : Int32) (0 : Int32) (0 : Int32) (0 : Int32) (0 : Int32) (0 : Int32) (0 : Int32) T144.heap n0 Z145 P144_1 P144_3) hZ (own_w hw 39 rfl) (own_w hw 3 rfl) (by decide) (by decide)) q148a q148c (g := (mkF m 116 #[iv p1, iv p2, iv p3, iv p4, iv 6, rv b128, iv 1] [.int 7, .ref b128])) rfl (by rw [hml]; rfl) (Steps.refl _) (argsL := [(.int (7 : Int32))]) (rest := []) (lenOf own_pd_2 rfl) rfl (by show 2 * 0 + _ ≤ _; exact Nat.le_of_eq rfl) (hb hby at_116) (fun _ _ => ⟨rfl, e147, (by decide : 2 + 0 ≤ _), (by decide : 18 + 0 ≤ _)⟩)
    dsimp only [Pt.U, Pt.locs, Pt.cells, Pt.slots] at X148 l148 y148 z148 st148 hQ148
    subst l148 y148 z148
    obtain ⟨hR148, e148, rfl⟩ := hQ148
    have N148 := Fr.app N147 (Fr.nil n0)
    obtain rfl := hR148
    refine own_tr st148 ?_
    show own_E p e below _ T148 (mkF m 119 #[iv p1, iv p2, iv p3, iv p4, iv 6, rv b128, iv 1] [.int p2])
    refine own_st (fun t k => XS.iloadN X148.here hx rfl (hb hby at_119) rfl k) ?_
    show own_E p e below _ T148 (mkF m 120 #[iv p1, iv p2, iv p3, iv p4, iv 6, rv b128, iv 1] [.int p2, .int p2])
    refine own_st (fun t k => XS.icmpNo X148.here hx rfl (hb hby at_120) rfl (teq rfl).2 k) ?_
    show own_E p e below _ T148 (mkF m 123 #[iv p1, iv p2, iv p3, iv p4, iv 6, rv b128, iv 1] [])
    refine own_st (fun t k => XS.iconst X148.here hx rfl (hb hby at_123) k) ?_
    show own_E p e below _ T148 (mkF m 124 #[iv p1, iv p2, iv p3, iv p4, iv 6, rv b128, iv 1] [.int 1])
    refine own_st (fun t k => XS.goto X148.here hx rfl (pc0 := 124) (pc' := 128) rfl (hb hby at_124) (by decide) (by decide) k) ?_
    show own_E p e below _ T148 (mkF m 128 #[iv p1, iv p2, iv p3, iv p4, iv 6, rv b128, iv 1] [.int 1])
    refine own_st (fun t k => XS.istore X148.here hx rfl (hb hby at_128) rfl (l' := #[iv p1, iv p2, iv p3, iv p4, iv 6, rv b128, iv 1]) rfl k) ?_
    show own_E p e below _ T148 (mkF m 130 #[iv p1, iv p2, iv p3, iv p4, iv 6, rv b128, iv 1] [])
    refine own_st (fun t k => XS.iload X148.here hx rfl (hb hby at_130) rfl k) ?_
    show own_E p e below _ T148 (mkF m 132 #[iv p1, iv p2, iv p3, iv p4, iv 6, rv b128, iv 1] [.int 6])
    refine own_st (fun t k => XS.ifNo X148.here hx rfl (hb hby at_132) rfl (by decide) k) ?_
    show own_E p e below _ T148 (mkF m 135 #[iv p1, iv p2, iv p3, iv p4, iv 6, rv b128, iv 1] [])
    refine own_st (fun t k => XS.iload X148.here hx rfl (hb hby at_135) rfl k) ?_
    show own_E p e below _ T148 (mkF m 137 #[iv p1, iv p2, iv p3, iv p4, iv 6, rv b128, iv 1] [.int 1])
    refine own_st (fun t k => XS.ifNo X148.here hx rfl (hb hby at_137) rfl (by decide) k) ?_
    show own_E p e below _ T148 (mkF m 140 #[iv p1, iv p2, iv p3, iv p4, iv 6, rv b128, iv 1] [])
    refine own_st (fun t k => XS.aload X148.here hx rfl (hb hby at_140) rfl rfl k) ?_
    show own_E p e below _ T148 (mkF m 142 #[iv p1, iv p2, iv p3, iv p4, iv 6, rv b128, iv 1] [.ref b128])
    refine own_st (fun t k => XS.iload X148.here hx rfl (hb hby at_142) rfl k) ?_
    show own_E p e below _ T148 (mkF m 144 #[iv p1, iv p2, iv p3, iv p4, iv 6, rv b128, iv 1] [.int 6, .ref b128])
    refine own_st (fun t k => XS.iconst X148.here hx rfl (hb hby at_144) k) ?_
    show own_E p e below _ T148 (mkF m 145 #[iv p1, iv p2, iv p3, iv p4, iv 6, rv b128, iv 1] [.int 1, .int 6, .ref b128])
    refine own_st (fun t k => XS.isub X148.here hx rfl (hb hby at_145) rfl k) ?_
    show own_E p e below _ T148 (mkF m 146 #[iv p1, iv p2, iv p3, iv p4, iv 6, rv b128, iv 1] [.int 5, .ref b128])
    obtain ⟨cq149, kq149, q149a, q149b, q149c⟩ := isOf hZ e148 P144_0
    obtain ⟨_, _, ⟨T149, L149, k149, n149⟩, -, X149, ⟨Lc149, hQ149, l149, y149, z149⟩, st149⟩ := X148.virtualBack hx (y := own_y6) (z := own_y6) hown (mvT hZ (own_w hw 35 rfl)) (mvT hZ (own_w hw 36 rfl)) (notFace_of_selects (args := #[]) (mvT hZ (own_w hw 38 rfl))) (mvT hZ (own_w hw 38 rfl)) (mvT hZ (own_w hw 37 rfl)) (by decide) (backOf (W := 0) (own_get16_5 l Z a0 hw [] b128 b130_o0 k130_o1 (0 : Int32) (0 : Int32) (0 : Int32) (0 : Int32) (0 : Int32) p3 p1 p2 (0 : Int32) (0 : Int32) (0 : Int32) (0 : Int32) (0 : Int32) (0 : Int32) (0 : Int32) (0 : Int32) T144.heap n0 Z145 P144_1 P144_3) hZ (own_w hw 39 rfl) (own_w hw 3 rfl) (by decide) (by decide)) q149a q149c (g := (mkF m 146 #[iv p1, iv p2, iv p3, iv p4, iv 6, rv b128, iv 1] [.int 5, .ref b128])) rfl (by rw [hml]; rfl) (Steps.refl _) (argsL := [(.int (5 : Int32))]) (rest := []) (lenOf own_pd_2 rfl) rfl (by show 2 * 0 + _ ≤ _; exact Nat.le_of_eq rfl) (hb hby at_146) (fun _ _ => ⟨rfl, e148, (by decide : 2 + 0 ≤ _), (by decide : 18 + 0 ≤ _)⟩)
    dsimp only [Pt.U, Pt.locs, Pt.cells, Pt.slots] at X149 l149 y149 z149 st149 hQ149
    subst l149 y149 z149
    obtain ⟨hR149, e149, rfl⟩ := hQ149
    have N149 := Fr.app N148 (Fr.nil n0)
    obtain rfl := hR149
    refine own_tr st149 ?_
    show own_E p e below _ T149 (mkF m 149 #[iv p1, iv p2, iv p3, iv p4, iv 6, rv b128, iv 1] [.int p3])
    refine own_st (fun t k => XS.iloadN X149.here hx rfl (hb hby at_149) rfl k) ?_
    show own_E p e below _ T149 (mkF m 150 #[iv p1, iv p2, iv p3, iv p4, iv 6, rv b128, iv 1] [.int p3, .int p3])
    refine own_st (fun t k => XS.icmpNo X149.here hx rfl (hb hby at_150) rfl (teq rfl).2 k) ?_
    show own_E p e below _ T149 (mkF m 153 #[iv p1, iv p2, iv p3, iv p4, iv 6, rv b128, iv 1] [])
    refine own_st (fun t k => XS.iconst X149.here hx rfl (hb hby at_153) k) ?_
    show own_E p e below _ T149 (mkF m 154 #[iv p1, iv p2, iv p3, iv p4, iv 6, rv b128, iv 1] [.int 1])
    refine own_st (fun t k => XS.goto X149.here hx rfl (pc0 := 154) (pc' := 158) rfl (hb hby at_154) (by decide) (by decide) k) ?_
    show own_E p e below _ T149 (mkF m 158 #[iv p1, iv p2, iv p3, iv p4, iv 6, rv b128, iv 1] [.int 1])
    refine own_st (fun t k => XS.istore X149.here hx rfl (hb hby at_158) rfl (l' := #[iv p1, iv p2, iv p3, iv p4, iv 6, rv b128, iv 1]) rfl k) ?_
    show own_E p e below _ T149 (mkF m 160 #[iv p1, iv p2, iv p3, iv p4, iv 6, rv b128, iv 1] [])
    refine own_st (fun t k => XS.iload X149.here hx rfl (hb hby at_160) rfl k) ?_
    show own_E p e below _ T149 (mkF m 162 #[iv p1, iv p2, iv p3, iv p4, iv 6, rv b128, iv 1] [.int 1])
    refine own_retS X149 hx Bd.notSynchronized Bd.returns rfl (by decide) (hb hby at_162) (by decide) (by decide) ?_
    exact ⟨rfl, N149⟩
  · rw [hs1]
    show own_E p e below _ s₁ (mkF m 9 #[iv p1, iv p2, iv p3, iv p4, iv 7, .unset, .unset] [])
    obtain ⟨T150, h150, X150, e150, E150, A150, D150, -, st150⟩ := newO X0 hx hZ hown (own_w hw 1 rfl) (own_w hw 2 rfl) (own_w hw 3 rfl) e0 (g := (mkF m 9 #[iv p1, iv p2, iv p3, iv p4, iv 7, .unset, .unset] [])) rfl (hb hby at_9) (by decide) (by decide)
    obtain ⟨b150, g150⟩ : ∃ z, z = h0.size := ⟨_, rfl⟩
    rw [← g150] at A150 D150 st150
    have g_b150 : n0 ≤ b150 := Nat.le_trans Z0 (Nat.le_of_eq g150.symm)
    have Z151 := Nat.le_trans Z0 E150.1
    have F_values_b150 : Fld Z h150 b150 "com/example/kalchas/kalchas/IntList" "values" "[I" .null := D150 (Or.inl (own_w hw 12 rfl)) (ty := (.array .int)) (by decide)
    have F_size_b150 : Fld Z h150 b150 "com/example/kalchas/kalchas/IntList" "size" "I" (.int (0 : Int32)) := D150 (Or.inl (own_w hw 19 rfl)) (ty := .int) (by decide)
    refine own_st st150 ?_
    show own_E p e below _ T150 (mkF m 12 #[iv p1, iv p2, iv p3, iv p4, iv 7, .unset, .unset] [.ref b150])
    refine own_st (fun t k => XS.dup X150.here hx rfl (hb hby at_12) rfl rfl k) ?_
    show own_E p e below _ T150 (mkF m 13 #[iv p1, iv p2, iv p3, iv p4, iv 7, .unset, .unset] [.ref b150, .ref b150])
    obtain ⟨_, _, ⟨T152, L152, k152, n152⟩, -, X152, ⟨Lc152, hQ152, l152, y152, z152⟩, st152⟩ := X150.specialBack hx (y := own_y2) rfl hown (mvT hZ (own_w hw 4 rfl)) (mvT hZ (own_w hw 5 rfl)) (mvT hZ (own_w hw 6 rfl)) (by decide) (backOf (W := 1) (own_init l Z a0 hw [] b150 h150 n0 Z151 A150 F_values_b150 F_size_b150 g_b150) hZ (own_w hw 6 rfl) (own_w hw 3 rfl) (by decide) (by decide)) (g := (mkF m 13 #[iv p1, iv p2, iv p3, iv p4, iv 7, .unset, .unset] [.ref b150, .ref b150])) rfl (by rw [hml]; rfl) (Steps.refl _) (a := b150) (argsL := []) (rest := [(.ref b150)]) (lenOf own_pd_1 rfl) rfl (by show 2 * 0 + _ ≤ _; exact Nat.le_of_eq rfl) (hb hby at_13) (fun _ _ => ⟨rfl, e150, (by decide : 1 + 1 ≤ _), (by decide : 2 + 16 ≤ _)⟩)
    dsimp only [Pt.U, Pt.locs, Pt.cells, Pt.slots] at X152 l152 y152 z152 st152 hQ152
    subst l152 y152 z152
    obtain ⟨b152_o0, k152_o1, rfl, Nq152, Kq152, sz152_0, P152_0, P152_1, P152_2, P152_3⟩ := hQ152
    have N152 := Fr.app (Fr.nil n0) Nq152
    have ne_b150_b152_o0 : b150 ≠ b152_o0 := Nat.ne_of_lt (Nat.lt_of_lt_of_le A150.lt sz152_0)
    have g_b152_o0 : n0 ≤ b152_o0 := Nat.le_trans Z151 sz152_0
    have e152 : T152.heap = T152.heap := rfl
    have Z153 := Nat.le_trans Z151 Kq152.1
    refine own_tr st152 ?_
    show own_E p e below _ T152 (mkF m 16 #[iv p1, iv p2, iv p3, iv p4, iv 7, .unset, .unset] [.ref b150])
    refine own_st (fun t k => XS.astore X152.here hx rfl (hb hby at_16) rfl rfl (l' := #[iv p1, iv p2, iv p3, iv p4, iv 7, rv b150, .unset]) rfl k) ?_
    show own_E p e below _ T152 (mkF m 18 #[iv p1, iv p2, iv p3, iv p4, iv 7, rv b150, .unset] [])
    refine own_st (fun t k => XS.aload X152.here hx rfl (hb hby at_18) rfl rfl k) ?_
    show own_E p e below _ T152 (mkF m 20 #[iv p1, iv p2, iv p3, iv p4, iv 7, rv b150, .unset] [.ref b150])
    refine own_st (fun t k => XS.iload X152.here hx rfl (hb hby at_20) rfl k) ?_
    show own_E p e below _ T152 (mkF m 22 #[iv p1, iv p2, iv p3, iv p4, iv 7, rv b150, .unset] [.int 7, .ref b150])
    obtain ⟨cq154, kq154, q154a, q154b, q154c⟩ := isOf hZ e152 P152_0
    obtain ⟨_, _, ⟨T154, L154, k154, n154⟩, -, X154, ⟨Lc154, hQ154, l154, y154, z154⟩, st154⟩ := X152.virtualBack hx (y := own_y3) (z := own_y3) hown (mvT hZ (own_w hw 13 rfl)) (mvT hZ (own_w hw 14 rfl)) (notFace_of_selects (args := #[]) (mvT hZ (own_w hw 16 rfl))) (mvT hZ (own_w hw 16 rfl)) (mvT hZ (own_w hw 15 rfl)) (by decide) (backOf (W := 0) (own_trunc l Z a0 hw [] b150 b152_o0 (7 : Int32) (0 : Int32) T152.heap n0 Z153 P152_0 P152_1 P152_2 g_b150) hZ (own_w hw 17 rfl) (own_w hw 3 rfl) (by decide) (by decide)) q154a q154c (g := (mkF m 22 #[iv p1, iv p2, iv p3, iv p4, iv 7, rv b150, .unset] [.int 7, .ref b150])) rfl (by rw [hml]; rfl) (Steps.refl _) (argsL := [(.int (7 : Int32))]) (rest := []) (lenOf own_pd_3 rfl) rfl (by show 2 * 0 + _ ≤ _; exact Nat.le_of_eq rfl) (hb hby at_22) (fun _ _ => ⟨rfl, e152, (by decide : 2 + 0 ≤ _), (by decide : 18 + 0 ≤ _)⟩)
    dsimp only [Pt.U, Pt.locs, Pt.cells, Pt.slots] at X154 l154 y154 z154 st154 hQ154
    subst l154 y154 z154
    obtain ⟨rfl, Nq154, Kq154, P154_0, P154_1, P154_2⟩ := hQ154
    have N154 := Fr.app N152 Nq154
    have e154 : T154.heap = T154.heap := rfl
    have Z155 := Nat.le_trans Z153 Kq154.1
    refine own_tr st154 ?_
    show own_E p e below _ T154 (mkF m 25 #[iv p1, iv p2, iv p3, iv p4, iv 7, rv b150, .unset] [])
    refine own_st (fun t k => XS.iload X154.here hx rfl (hb hby at_25) rfl k) ?_
    show own_E p e below _ T154 (mkF m 27 #[iv p1, iv p2, iv p3, iv p4, iv 7, rv b150, .unset] [.int 7])
    refine own_st (fun t k => XS.ifNo X154.here hx rfl (hb hby at_27) rfl (by decide) k) ?_
    show own_E p e below _ T154 (mkF m 30 #[iv p1, iv p2, iv p3, iv p4, iv 7, rv b150, .unset] [])
    refine own_st (fun t k => XS.aload X154.here hx rfl (hb hby at_30) rfl rfl k) ?_
    show own_E p e below _ T154 (mkF m 32 #[iv p1, iv p2, iv p3, iv p4, iv 7, rv b150, .unset] [.ref b150])
    refine own_st (fun t k => XS.iload X154.here hx rfl (hb hby at_32) rfl k) ?_
    show own_E p e below _ T154 (mkF m 34 #[iv p1, iv p2, iv p3, iv p4, iv 7, rv b150, .unset] [.int 7, .ref b150])
    refine own_st (fun t k => XS.iconst X154.here hx rfl (hb hby at_34) k) ?_
    show own_E p e below _ T154 (mkF m 35 #[iv p1, iv p2, iv p3, iv p4, iv 7, rv b150, .unset] [.int 1, .int 7, .ref b150])
    refine own_st (fun t k => XS.isub X154.here hx rfl (hb hby at_35) rfl k) ?_
    show own_E p e below _ T154 (mkF m 36 #[iv p1, iv p2, iv p3, iv p4, iv 7, rv b150, .unset] [.int 6, .ref b150])
    refine own_st (fun t k => XS.iloadN X154.here hx rfl (hb hby at_36) rfl k) ?_
    show own_E p e below _ T154 (mkF m 37 #[iv p1, iv p2, iv p3, iv p4, iv 7, rv b150, .unset] [.int p3, .int 6, .ref b150])
    have B156 := (P152_3.keep Kq154 (ninS (Ne.symm ne_b150_b152_o0) nin0))
    obtain ⟨cq157, kq157, q157a, q157b, q157c⟩ := isOf hZ e154 P154_0
    obtain ⟨_, _, ⟨T157, L157, k157, n157⟩, -, X157, ⟨Lc157, hQ157, l157, y157, z157⟩, st157⟩ := X154.virtualBack hx (y := own_y4) (z := own_y4) hown (mvT hZ (own_w hw 20 rfl)) (mvT hZ (own_w hw 21 rfl)) (notFace_of_selects (args := #[]) (mvT hZ (own_w hw 23 rfl))) (mvT hZ (own_w hw 23 rfl)) (mvT hZ (own_w hw 22 rfl)) (by decide) (backOf (W := 0) (own_set6 l Z a0 hw [] b150 b152_o0 k152_o1 p3 (0 : Int32) (0 : Int32) (0 : Int32) (0 : Int32) (0 : Int32) (0 : Int32) (0 : Int32) (0 : Int32) (0 : Int32) (0 : Int32) (0 : Int32) (0 : Int32) (0 : Int32) (0 : Int32) (0 : Int32) (0 : Int32) T154.heap n0 Z155 P154_1 B156 ne_b150_b152_o0 g_b152_o0) hZ (own_w hw 24 rfl) (own_w hw 3 rfl) (by decide) (by decide)) q157a q157c (g := (mkF m 37 #[iv p1, iv p2, iv p3, iv p4, iv 7, rv b150, .unset] [.int p3, .int 6, .ref b150])) rfl (by rw [hml]; rfl) (Steps.refl _) (argsL := [(.int (6 : Int32)), (.int p3)]) (rest := []) (lenOf own_pd_5 rfl) rfl (by show 2 * 0 + _ ≤ _; exact Nat.le_of_eq rfl) (hb hby at_37) (fun _ _ => ⟨rfl, e154, (by decide : 2 + 0 ≤ _), (by decide : 18 + 0 ≤ _)⟩)
    dsimp only [Pt.U, Pt.locs, Pt.cells, Pt.slots] at X157 l157 y157 z157 st157 hQ157
    subst l157 y157 z157
    obtain ⟨rfl, Nq157, Kq157, P157_0⟩ := hQ157
    have N157 := Fr.app N154 Nq157
    have e157 : T157.heap = T157.heap := rfl
    have Z158 := Nat.le_trans Z155 Kq157.1
    refine own_tr st157 ?_
    show own_E p e below _ T157 (mkF m 40 #[iv p1, iv p2, iv p3, iv p4, iv 7, rv b150, .unset] [])
    refine own_st (fun t k => XS.aload X157.here hx rfl (hb hby at_40) rfl rfl k) ?_
    show own_E p e below _ T157 (mkF m 42 #[iv p1, iv p2, iv p3, iv p4, iv 7, rv b150, .unset] [.ref b150])
    refine own_st (fun t k => XS.iloadN X157.here hx rfl (hb hby at_42) rfl k) ?_
    show own_E p e below _ T157 (mkF m 43 #[iv p1, iv p2, iv p3, iv p4, iv 7, rv b150, .unset] [.int p1, .ref b150])
    have B159 := (P154_0.keep Kq157)
    have B160 := (P154_1.keep Kq157 (ninS ne_b150_b152_o0 nin0))
    have B161 := (P154_2.keep Kq157 (ninS ne_b150_b152_o0 nin0))
    obtain ⟨cq162, kq162, q162a, q162b, q162c⟩ := isOf hZ e157 B159
    obtain ⟨_, _, ⟨T162, L162, k162, n162⟩, -, X162, ⟨Lc162, hQ162, l162, y162, z162⟩, st162⟩ := X157.virtualBack hx (y := own_y5) (z := own_y5) hown (mvT hZ (own_w hw 25 rfl)) (mvT hZ (own_w hw 26 rfl)) (notFace_of_selects (args := #[]) (mvT hZ (own_w hw 28 rfl))) (mvT hZ (own_w hw 28 rfl)) (mvT hZ (own_w hw 27 rfl)) (by decide) (backOf (W := 0) (own_add7 l Z a0 hw [] b150 b152_o0 k152_o1 p1 (0 : Int32) (0 : Int32) (0 : Int32) (0 : Int32) (0 : Int32) (0 : Int32) p3 (0 : Int32) (0 : Int32) (0 : Int32) (0 : Int32) (0 : Int32) (0 : Int32) (0 : Int32) (0 : Int32) (0 : Int32) T157.heap n0 Z158 B159 B160 B161 P157_0 ne_b150_b152_o0 g_b150 g_b152_o0) hZ (own_w hw 29 rfl) (own_w hw 3 rfl) (by decide) (by decide)) q162a q162c (g := (mkF m 43 #[iv p1, iv p2, iv p3, iv p4, iv 7, rv b150, .unset] [.int p1, .ref b150])) rfl (by rw [hml]; rfl) (Steps.refl _) (argsL := [(.int p1)]) (rest := []) (lenOf own_pd_3 rfl) rfl (by show 2 * 0 + _ ≤ _; exact Nat.le_of_eq rfl) (hb hby at_43) (fun _ _ => ⟨rfl, e157, (by decide : 2 + 0 ≤ _), (by decide : 18 + 0 ≤ _)⟩)
    dsimp only [Pt.U, Pt.locs, Pt.cells, Pt.slots] at X162 l162 y162 z162 st162 hQ162
    subst l162 y162 z162
    obtain ⟨rfl, Nq162, Kq162, P162_0, P162_1, P162_2, P162_3⟩ := hQ162
    have N162 := Fr.app N157 Nq162
    have e162 : T162.heap = T162.heap := rfl
    have Z163 := Nat.le_trans Z158 Kq162.1
    refine own_tr st162 ?_
    show own_E p e below _ T162 (mkF m 46 #[iv p1, iv p2, iv p3, iv p4, iv 7, rv b150, .unset] [])
    refine own_st (fun t k => XS.aload X162.here hx rfl (hb hby at_46) rfl rfl k) ?_
    show own_E p e below _ T162 (mkF m 48 #[iv p1, iv p2, iv p3, iv p4, iv 7, rv b150, .unset] [.ref b150])
    obtain ⟨cq164, kq164, q164a, q164b, q164c⟩ := isOf hZ e162 P162_0
    obtain ⟨_, _, ⟨T164, L164, k164, n164⟩, -, X164, ⟨Lc164, hQ164, l164, y164, z164⟩, st164⟩ := X162.virtualBack hx (y := own_y7) (z := own_y7) hown (mvT hZ (own_w hw 30 rfl)) (mvT hZ (own_w hw 31 rfl)) (notFace_of_selects (args := #[]) (mvT hZ (own_w hw 33 rfl))) (mvT hZ (own_w hw 33 rfl)) (mvT hZ (own_w hw 32 rfl)) (by decide) (backOf (W := 0) (own_size l Z a0 hw [] b150 (8 : Int32) T162.heap n0 Z163 P162_2) hZ (own_w hw 34 rfl) (own_w hw 3 rfl) (by decide) (by decide)) q164a q164c (g := (mkF m 48 #[iv p1, iv p2, iv p3, iv p4, iv 7, rv b150, .unset] [.ref b150])) rfl (by rw [hml]; rfl) (Steps.refl _) (argsL := []) (rest := []) (lenOf own_pd_0 rfl) rfl (by show 2 * 0 + _ ≤ _; exact Nat.le_of_eq rfl) (hb hby at_48) (fun _ _ => ⟨rfl, e162, (by decide : 2 + 0 ≤ _), (by decide : 18 + 0 ≤ _)⟩)
    dsimp only [Pt.U, Pt.locs, Pt.cells, Pt.slots] at X164 l164 y164 z164 st164 hQ164
    subst l164 y164 z164
    obtain ⟨hR164, e164, rfl⟩ := hQ164
    have N164 := Fr.app N162 (Fr.nil n0)
    obtain rfl := hR164
    refine own_tr st164 ?_
    show own_E p e below _ T164 (mkF m 51 #[iv p1, iv p2, iv p3, iv p4, iv 7, rv b150, .unset] [.int 8])
    refine own_st (fun t k => XS.iload X164.here hx rfl (hb hby at_51) rfl k) ?_
    show own_E p e below _ T164 (mkF m 53 #[iv p1, iv p2, iv p3, iv p4, iv 7, rv b150, .unset] [.int 7, .int 8])
    refine own_st (fun t k => XS.iconst X164.here hx rfl (hb hby at_53) k) ?_
    show own_E p e below _ T164 (mkF m 54 #[iv p1, iv p2, iv p3, iv p4, iv 7, rv b150, .unset] [.int 1, .int 7, .int 8])
    refine own_st (fun t k => XS.iadd X164.here hx rfl (hb hby at_54) rfl k) ?_
    show own_E p e below _ T164 (mkF m 55 #[iv p1, iv p2, iv p3, iv p4, iv 7, rv b150, .unset] [.int 8, .int 8])
    refine own_st (fun t k => XS.icmpNo X164.here hx rfl (hb hby at_55) rfl (by decide) k) ?_
    show own_E p e below _ T164 (mkF m 58 #[iv p1, iv p2, iv p3, iv p4, iv 7, rv b150, .unset] [])
    refine own_st (fun t k => XS.aload X164.here hx rfl (hb hby at_58) rfl rfl k) ?_
    show own_E p e below _ T164 (mkF m 60 #[iv p1, iv p2, iv p3, iv p4, iv 7, rv b150, .unset] [.ref b150])
    refine own_st (fun t k => XS.iload X164.here hx rfl (hb hby at_60) rfl k) ?_
    show own_E p e below _ T164 (mkF m 62 #[iv p1, iv p2, iv p3, iv p4, iv 7, rv b150, .unset] [.int 7, .ref b150])
    obtain ⟨cq165, kq165, q165a, q165b, q165c⟩ := isOf hZ e164 P162_0
    obtain ⟨_, _, ⟨T165, L165, k165, n165⟩, -, X165, ⟨Lc165, hQ165, l165, y165, z165⟩, st165⟩ := X164.virtualBack hx (y := own_y6) (z := own_y6) hown (mvT hZ (own_w hw 35 rfl)) (mvT hZ (own_w hw 36 rfl)) (notFace_of_selects (args := #[]) (mvT hZ (own_w hw 38 rfl))) (mvT hZ (own_w hw 38 rfl)) (mvT hZ (own_w hw 37 rfl)) (by decide) (backOf (W := 0) (own_get16_7 l Z a0 hw [] b150 b152_o0 k152_o1 (0 : Int32) (0 : Int32) (0 : Int32) (0 : Int32) (0 : Int32) (0 : Int32) p3 p1 (0 : Int32) (0 : Int32) (0 : Int32) (0 : Int32) (0 : Int32) (0 : Int32) (0 : Int32) (0 : Int32) T162.heap n0 Z163 P162_1 P162_3) hZ (own_w hw 39 rfl) (own_w hw 3 rfl) (by decide) (by decide)) q165a q165c (g := (mkF m 62 #[iv p1, iv p2, iv p3, iv p4, iv 7, rv b150, .unset] [.int 7, .ref b150])) rfl (by rw [hml]; rfl) (Steps.refl _) (argsL := [(.int (7 : Int32))]) (rest := []) (lenOf own_pd_2 rfl) rfl (by show 2 * 0 + _ ≤ _; exact Nat.le_of_eq rfl) (hb hby at_62) (fun _ _ => ⟨rfl, e164, (by decide : 2 + 0 ≤ _), (by decide : 18 + 0 ≤ _)⟩)
    dsimp only [Pt.U, Pt.locs, Pt.cells, Pt.slots] at X165 l165 y165 z165 st165 hQ165
    subst l165 y165 z165
    obtain ⟨hR165, e165, rfl⟩ := hQ165
    have N165 := Fr.app N164 (Fr.nil n0)
    obtain rfl := hR165
    refine own_tr st165 ?_
    show own_E p e below _ T165 (mkF m 65 #[iv p1, iv p2, iv p3, iv p4, iv 7, rv b150, .unset] [.int p1])
    refine own_st (fun t k => XS.iloadN X165.here hx rfl (hb hby at_65) rfl k) ?_
    show own_E p e below _ T165 (mkF m 66 #[iv p1, iv p2, iv p3, iv p4, iv 7, rv b150, .unset] [.int p1, .int p1])
    refine own_st (fun t k => XS.icmpNo X165.here hx rfl (hb hby at_66) rfl (teq rfl).2 k) ?_
    show own_E p e below _ T165 (mkF m 69 #[iv p1, iv p2, iv p3, iv p4, iv 7, rv b150, .unset] [])
    refine own_st (fun t k => XS.iconst X165.here hx rfl (hb hby at_69) k) ?_
    show own_E p e below _ T165 (mkF m 70 #[iv p1, iv p2, iv p3, iv p4, iv 7, rv b150, .unset] [.int 1])
    refine own_st (fun t k => XS.goto X165.here hx rfl (pc0 := 70) (pc' := 74) rfl (hb hby at_70) (by decide) (by decide) k) ?_
    show own_E p e below _ T165 (mkF m 74 #[iv p1, iv p2, iv p3, iv p4, iv 7, rv b150, .unset] [.int 1])
    refine own_st (fun t k => XS.istore X165.here hx rfl (hb hby at_74) rfl (l' := #[iv p1, iv p2, iv p3, iv p4, iv 7, rv b150, iv 1]) rfl k) ?_
    show own_E p e below _ T165 (mkF m 76 #[iv p1, iv p2, iv p3, iv p4, iv 7, rv b150, iv 1] [])
    refine own_st (fun t k => XS.aload X165.here hx rfl (hb hby at_76) rfl rfl k) ?_
    show own_E p e below _ T165 (mkF m 78 #[iv p1, iv p2, iv p3, iv p4, iv 7, rv b150, iv 1] [.ref b150])
    refine own_st (fun t k => XS.iloadN X165.here hx rfl (hb hby at_78) rfl k) ?_
    show own_E p e below _ T165 (mkF m 79 #[iv p1, iv p2, iv p3, iv p4, iv 7, rv b150, iv 1] [.int p2, .ref b150])
    obtain ⟨cq166, kq166, q166a, q166b, q166c⟩ := isOf hZ e165 P162_0
    obtain ⟨_, _, ⟨T166, L166, k166, n166⟩, -, X166, ⟨Lc166, hQ166, l166, y166, z166⟩, st166⟩ := X165.virtualBack hx (y := own_y5) (z := own_y5) hown (mvT hZ (own_w hw 25 rfl)) (mvT hZ (own_w hw 26 rfl)) (notFace_of_selects (args := #[]) (mvT hZ (own_w hw 28 rfl))) (mvT hZ (own_w hw 28 rfl)) (mvT hZ (own_w hw 27 rfl)) (by decide) (backOf (W := 0) (own_add8 l Z a0 hw [] b150 b152_o0 k152_o1 p2 (0 : Int32) (0 : Int32) (0 : Int32) (0 : Int32) (0 : Int32) (0 : Int32) p3 p1 (0 : Int32) (0 : Int32) (0 : Int32) (0 : Int32) (0 : Int32) (0 : Int32) (0 : Int32) (0 : Int32) T162.heap n0 Z163 P162_0 P162_1 P162_2 P162_3 ne_b150_b152_o0 g_b150 g_b152_o0) hZ (own_w hw 29 rfl) (own_w hw 3 rfl) (by decide) (by decide)) q166a q166c (g := (mkF m 79 #[iv p1, iv p2, iv p3, iv p4, iv 7, rv b150, iv 1] [.int p2, .ref b150])) rfl (by rw [hml]; rfl) (Steps.refl _) (argsL := [(.int p2)]) (rest := []) (lenOf own_pd_3 rfl) rfl (by show 2 * 0 + _ ≤ _; exact Nat.le_of_eq rfl) (hb hby at_79) (fun _ _ => ⟨rfl, e165, (by decide : 2 + 0 ≤ _), (by decide : 18 + 0 ≤ _)⟩)
    dsimp only [Pt.U, Pt.locs, Pt.cells, Pt.slots] at X166 l166 y166 z166 st166 hQ166
    subst l166 y166 z166
    obtain ⟨rfl, Nq166, Kq166, P166_0, P166_1, P166_2, P166_3⟩ := hQ166
    have N166 := Fr.app N165 Nq166
    have e166 : T166.heap = T166.heap := rfl
    have Z167 := Nat.le_trans Z163 Kq166.1
    refine own_tr st166 ?_
    show own_E p e below _ T166 (mkF m 82 #[iv p1, iv p2, iv p3, iv p4, iv 7, rv b150, iv 1] [])
    refine own_st (fun t k => XS.iload X166.here hx rfl (hb hby at_82) rfl k) ?_
    show own_E p e below _ T166 (mkF m 84 #[iv p1, iv p2, iv p3, iv p4, iv 7, rv b150, iv 1] [.int 1])
    refine own_st (fun t k => XS.ifNo X166.here hx rfl (hb hby at_84) rfl (by decide) k) ?_
    show own_E p e below _ T166 (mkF m 87 #[iv p1, iv p2, iv p3, iv p4, iv 7, rv b150, iv 1] [])
    refine own_st (fun t k => XS.aload X166.here hx rfl (hb hby at_87) rfl rfl k) ?_
    show own_E p e below _ T166 (mkF m 89 #[iv p1, iv p2, iv p3, iv p4, iv 7, rv b150, iv 1] [.ref b150])
    obtain ⟨cq168, kq168, q168a, q168b, q168c⟩ := isOf hZ e166 P166_0
    obtain ⟨_, _, ⟨T168, L168, k168, n168⟩, -, X168, ⟨Lc168, hQ168, l168, y168, z168⟩, st168⟩ := X166.virtualBack hx (y := own_y7) (z := own_y7) hown (mvT hZ (own_w hw 30 rfl)) (mvT hZ (own_w hw 31 rfl)) (notFace_of_selects (args := #[]) (mvT hZ (own_w hw 33 rfl))) (mvT hZ (own_w hw 33 rfl)) (mvT hZ (own_w hw 32 rfl)) (by decide) (backOf (W := 0) (own_size l Z a0 hw [] b150 (9 : Int32) T166.heap n0 Z167 P166_2) hZ (own_w hw 34 rfl) (own_w hw 3 rfl) (by decide) (by decide)) q168a q168c (g := (mkF m 89 #[iv p1, iv p2, iv p3, iv p4, iv 7, rv b150, iv 1] [.ref b150])) rfl (by rw [hml]; rfl) (Steps.refl _) (argsL := []) (rest := []) (lenOf own_pd_0 rfl) rfl (by show 2 * 0 + _ ≤ _; exact Nat.le_of_eq rfl) (hb hby at_89) (fun _ _ => ⟨rfl, e166, (by decide : 2 + 0 ≤ _), (by decide : 18 + 0 ≤ _)⟩)
    dsimp only [Pt.U, Pt.locs, Pt.cells, Pt.slots] at X168 l168 y168 z168 st168 hQ168
    subst l168 y168 z168
    obtain ⟨hR168, e168, rfl⟩ := hQ168
    have N168 := Fr.app N166 (Fr.nil n0)
    obtain rfl := hR168
    refine own_tr st168 ?_
    show own_E p e below _ T168 (mkF m 92 #[iv p1, iv p2, iv p3, iv p4, iv 7, rv b150, iv 1] [.int 9])
    refine own_st (fun t k => XS.iload X168.here hx rfl (hb hby at_92) rfl k) ?_
    show own_E p e below _ T168 (mkF m 94 #[iv p1, iv p2, iv p3, iv p4, iv 7, rv b150, iv 1] [.int 7, .int 9])
    refine own_st (fun t k => XS.iconst X168.here hx rfl (hb hby at_94) k) ?_
    show own_E p e below _ T168 (mkF m 95 #[iv p1, iv p2, iv p3, iv p4, iv 7, rv b150, iv 1] [.int 2, .int 7, .int 9])
    refine own_st (fun t k => XS.iadd X168.here hx rfl (hb hby at_95) rfl k) ?_
    show own_E p e below _ T168 (mkF m 96 #[iv p1, iv p2, iv p3, iv p4, iv 7, rv b150, iv 1] [.int 9, .int 9])
    refine own_st (fun t k => XS.icmpNo X168.here hx rfl (hb hby at_96) rfl (by decide) k) ?_
    show own_E p e below _ T168 (mkF m 99 #[iv p1, iv p2, iv p3, iv p4, iv 7, rv b150, iv 1] [])
    refine own_st (fun t k => XS.aload X168.here hx rfl (hb hby at_99) rfl rfl k) ?_
    show own_E p e below _ T168 (mkF m 101 #[iv p1, iv p2, iv p3, iv p4, iv 7, rv b150, iv 1] [.ref b150])
    refine own_st (fun t k => XS.iload X168.here hx rfl (hb hby at_101) rfl k) ?_
    show own_E p e below _ T168 (mkF m 103 #[iv p1, iv p2, iv p3, iv p4, iv 7, rv b150, iv 1] [.int 7, .ref b150])
    obtain ⟨cq169, kq169, q169a, q169b, q169c⟩ := isOf hZ e168 P166_0
    obtain ⟨_, _, ⟨T169, L169, k169, n169⟩, -, X169, ⟨Lc169, hQ169, l169, y169, z169⟩, st169⟩ := X168.virtualBack hx (y := own_y6) (z := own_y6) hown (mvT hZ (own_w hw 35 rfl)) (mvT hZ (own_w hw 36 rfl)) (notFace_of_selects (args := #[]) (mvT hZ (own_w hw 38 rfl))) (mvT hZ (own_w hw 38 rfl)) (mvT hZ (own_w hw 37 rfl)) (by decide) (backOf (W := 0) (own_get16_7 l Z a0 hw [] b150 b152_o0 k152_o1 (0 : Int32) (0 : Int32) (0 : Int32) (0 : Int32) (0 : Int32) (0 : Int32) p3 p1 p2 (0 : Int32) (0 : Int32) (0 : Int32) (0 : Int32) (0 : Int32) (0 : Int32) (0 : Int32) T166.heap n0 Z167 P166_1 P166_3) hZ (own_w hw 39 rfl) (own_w hw 3 rfl) (by decide) (by decide)) q169a q169c (g := (mkF m 103 #[iv p1, iv p2, iv p3, iv p4, iv 7, rv b150, iv 1] [.int 7, .ref b150])) rfl (by rw [hml]; rfl) (Steps.refl _) (argsL := [(.int (7 : Int32))]) (rest := []) (lenOf own_pd_2 rfl) rfl (by show 2 * 0 + _ ≤ _; exact Nat.le_of_eq rfl) (hb hby at_103) (fun _ _ => ⟨rfl, e168, (by decide : 2 + 0 ≤ _), (by decide : 18 + 0 ≤ _)⟩)
    dsimp only [Pt.U, Pt.locs, Pt.cells, Pt.slots] at X169 l169 y169 z169 st169 hQ169
    subst l169 y169 z169
    obtain ⟨hR169, e169, rfl⟩ := hQ169
    have N169 := Fr.app N168 (Fr.nil n0)
    obtain rfl := hR169
    refine own_tr st169 ?_
    show own_E p e below _ T169 (mkF m 106 #[iv p1, iv p2, iv p3, iv p4, iv 7, rv b150, iv 1] [.int p1])
    refine own_st (fun t k => XS.iloadN X169.here hx rfl (hb hby at_106) rfl k) ?_
    show own_E p e below _ T169 (mkF m 107 #[iv p1, iv p2, iv p3, iv p4, iv 7, rv b150, iv 1] [.int p1, .int p1])
    refine own_st (fun t k => XS.icmpNo X169.here hx rfl (hb hby at_107) rfl (teq rfl).2 k) ?_
    show own_E p e below _ T169 (mkF m 110 #[iv p1, iv p2, iv p3, iv p4, iv 7, rv b150, iv 1] [])
    refine own_st (fun t k => XS.aload X169.here hx rfl (hb hby at_110) rfl rfl k) ?_
    show own_E p e below _ T169 (mkF m 112 #[iv p1, iv p2, iv p3, iv p4, iv 7, rv b150, iv 1] [.ref b150])
    refine own_st (fun t k => XS.iload X169.here hx rfl (hb hby at_112) rfl k) ?_
    show own_E p e below _ T169 (mkF m 114 #[iv p1, iv p2, iv p3, iv p4, iv 7, rv b150, iv 1] [.int 7, .ref b150])
    refine own_st (fun t k => XS.iconst X169.here hx rfl (hb hby at_114) k) ?_
    show own_E p e below _ T169 (mkF m 115 #[iv p1, iv p2, iv p3, iv p4, iv 7, rv b150, iv 1] [.int 1, .int 7, .ref b150])
    refine own_st (fun t k => XS.iadd X169.here hx rfl (hb hby at_115) rfl k) ?_
    show own_E p e below _ T169 (mkF m 116 #[iv p1, iv p2, iv p3, iv p4, iv 7, rv b150, iv 1] [.int 8, .ref b150])
    obtain ⟨cq170, kq170, q170a, q170b, q170c⟩ := isOf hZ e169 P166_0
    obtain ⟨_, _, ⟨T170, L170, k170, n170⟩, -, X170, ⟨Lc170, hQ170, l170, y170, z170⟩, st170⟩ := X169.virtualBack hx (y := own_y6) (z := own_y6) hown (mvT hZ (own_w hw 35 rfl)) (mvT hZ (own_w hw 36 rfl)) (notFace_of_selects (args := #[]) (mvT hZ (own_w hw 38 rfl))) (mvT hZ (own_w hw 38 rfl)) (mvT hZ (own_w hw 37 rfl)) (by decide) (backOf (W := 0) (own_get16_8 l Z a0 hw [] b150 b152_o0 k152_o1 (0 : Int32) (0 : Int32) (0 : Int32) (0 : Int32) (0 : Int32) (0 : Int32) p3 p1 p2 (0 : Int32) (0 : Int32) (0 : Int32) (0 : Int32) (0 : Int32) (0 : Int32) (0 : Int32) T166.heap n0 Z167 P166_1 P166_3) hZ (own_w hw 39 rfl) (own_w hw 3 rfl) (by decide) (by decide)) q170a q170c (g := (mkF m 116 #[iv p1, iv p2, iv p3, iv p4, iv 7, rv b150, iv 1] [.int 8, .ref b150])) rfl (by rw [hml]; rfl) (Steps.refl _) (argsL := [(.int (8 : Int32))]) (rest := []) (lenOf own_pd_2 rfl) rfl (by show 2 * 0 + _ ≤ _; exact Nat.le_of_eq rfl) (hb hby at_116) (fun _ _ => ⟨rfl, e169, (by decide : 2 + 0 ≤ _), (by decide : 18 + 0 ≤ _)⟩)
    dsimp only [Pt.U, Pt.locs, Pt.cells, Pt.slots] at X170 l170 y170 z170 st170 hQ170
    subst l170 y170 z170
    obtain ⟨hR170, e170, rfl⟩ := hQ170
    have N170 := Fr.app N169 (Fr.nil n0)
    obtain rfl := hR170
    refine own_tr st170 ?_
    show own_E p e below _ T170 (mkF m 119 #[iv p1, iv p2, iv p3, iv p4, iv 7, rv b150, iv 1] [.int p2])
    refine own_st (fun t k => XS.iloadN X170.here hx rfl (hb hby at_119) rfl k) ?_
    show own_E p e below _ T170 (mkF m 120 #[iv p1, iv p2, iv p3, iv p4, iv 7, rv b150, iv 1] [.int p2, .int p2])
    refine own_st (fun t k => XS.icmpNo X170.here hx rfl (hb hby at_120) rfl (teq rfl).2 k) ?_
    show own_E p e below _ T170 (mkF m 123 #[iv p1, iv p2, iv p3, iv p4, iv 7, rv b150, iv 1] [])
    refine own_st (fun t k => XS.iconst X170.here hx rfl (hb hby at_123) k) ?_
    show own_E p e below _ T170 (mkF m 124 #[iv p1, iv p2, iv p3, iv p4, iv 7, rv b150, iv 1] [.int 1])
    refine own_st (fun t k => XS.goto X170.here hx rfl (pc0 := 124) (pc' := 128) rfl (hb hby at_124) (by decide) (by decide) k) ?_
    show own_E p e below _ T170 (mkF m 128 #[iv p1, iv p2, iv p3, iv p4, iv 7, rv b150, iv 1] [.int 1])
    refine own_st (fun t k => XS.istore X170.here hx rfl (hb hby at_128) rfl (l' := #[iv p1, iv p2, iv p3, iv p4, iv 7, rv b150, iv 1]) rfl k) ?_
    show own_E p e below _ T170 (mkF m 130 #[iv p1, iv p2, iv p3, iv p4, iv 7, rv b150, iv 1] [])
    refine own_st (fun t k => XS.iload X170.here hx rfl (hb hby at_130) rfl k) ?_
    show own_E p e below _ T170 (mkF m 132 #[iv p1, iv p2, iv p3, iv p4, iv 7, rv b150, iv 1] [.int 7])
    refine own_st (fun t k => XS.ifNo X170.here hx rfl (hb hby at_132) rfl (by decide) k) ?_
    show own_E p e below _ T170 (mkF m 135 #[iv p1, iv p2, iv p3, iv p4, iv 7, rv b150, iv 1] [])
    refine own_st (fun t k => XS.iload X170.here hx rfl (hb hby at_135) rfl k) ?_
    show own_E p e below _ T170 (mkF m 137 #[iv p1, iv p2, iv p3, iv p4, iv 7, rv b150, iv 1] [.int 1])
    refine own_st (fun t k => XS.ifNo X170.here hx rfl (hb hby at_137) rfl (by decide) k) ?_
    show own_E p e below _ T170 (mkF m 140 #[iv p1, iv p2, iv p3, iv p4, iv 7, rv b150, iv 1] [])
    refine own_st (fun t k => XS.aload X170.here hx rfl (hb hby at_140) rfl rfl k) ?_
    show own_E p e below _ T170 (mkF m 142 #[iv p1, iv p2, iv p3, iv p4, iv 7, rv b150, iv 1] [.ref b150])
    refine own_st (fun t k => XS.iload X170.here hx rfl (hb hby at_142) rfl k) ?_
    show own_E p e below _ T170 (mkF m 144 #[iv p1, iv p2, iv p3, iv p4, iv 7, rv b150, iv 1] [.int 7, .ref b150])
    refine own_st (fun t k => XS.iconst X170.here hx rfl (hb hby at_144) k) ?_
    show own_E p e below _ T170 (mkF m 145 #[iv p1, iv p2, iv p3, iv p4, iv 7, rv b150, iv 1] [.int 1, .int 7, .ref b150])
    refine own_st (fun t k => XS.isub X170.here hx rfl (hb hby at_145) rfl k) ?_
    show own_E p e below _ T170 (mkF m 146 #[iv p1, iv p2, iv p3, iv p4, iv 7, rv b150, iv 1] [.int 6, .ref b150])
    obtain ⟨cq171, kq171, q171a, q171b, q171c⟩ := isOf hZ e170 P166_0
    obtain ⟨_, _, ⟨T171, L171, k171, n171⟩, -, X171, ⟨Lc171, hQ171, l171, y171, z171⟩, st171⟩ := X170.virtualBack hx (y := own_y6) (z := own_y6) hown (mvT hZ (own_w hw 35 rfl)) (mvT hZ (own_w hw 36 rfl)) (notFace_of_selects (args := #[]) (mvT hZ (own_w hw 38 rfl))) (mvT hZ (own_w hw 38 rfl)) (mvT hZ (own_w hw 37 rfl)) (by decide) (backOf (W := 0) (own_get16_6 l Z a0 hw [] b150 b152_o0 k152_o1 (0 : Int32) (0 : Int32) (0 : Int32) (0 : Int32) (0 : Int32) (0 : Int32) p3 p1 p2 (0 : Int32) (0 : Int32) (0 : Int32) (0 : Int32) (0 : Int32) (0 : Int32) (0 : Int32) T166.heap n0 Z167 P166_1 P166_3) hZ (own_w hw 39 rfl) (own_w hw 3 rfl) (by decide) (by decide)) q171a q171c (g := (mkF m 146 #[iv p1, iv p2, iv p3, iv p4, iv 7, rv b150, iv 1] [.int 6, .ref b150])) rfl (by rw [hml]; rfl) (Steps.refl _) (argsL := [(.int (6 : Int32))]) (rest := []) (lenOf own_pd_2 rfl) rfl (by show 2 * 0 + _ ≤ _; exact Nat.le_of_eq rfl) (hb hby at_146) (fun _ _ => ⟨rfl, e170, (by decide : 2 + 0 ≤ _), (by decide : 18 + 0 ≤ _)⟩)
    dsimp only [Pt.U, Pt.locs, Pt.cells, Pt.slots] at X171 l171 y171 z171 st171 hQ171
    subst l171 y171 z171
    obtain ⟨hR171, e171, rfl⟩ := hQ171
    have N171 := Fr.app N170 (Fr.nil n0)
    obtain rfl := hR171
    refine own_tr st171 ?_
    show own_E p e below _ T171 (mkF m 149 #[iv p1, iv p2, iv p3, iv p4, iv 7, rv b150, iv 1] [.int p3])
    refine own_st (fun t k => XS.iloadN X171.here hx rfl (hb hby at_149) rfl k) ?_
    show own_E p e below _ T171 (mkF m 150 #[iv p1, iv p2, iv p3, iv p4, iv 7, rv b150, iv 1] [.int p3, .int p3])
    refine own_st (fun t k => XS.icmpNo X171.here hx rfl (hb hby at_150) rfl (teq rfl).2 k) ?_
    show own_E p e below _ T171 (mkF m 153 #[iv p1, iv p2, iv p3, iv p4, iv 7, rv b150, iv 1] [])
    refine own_st (fun t k => XS.iconst X171.here hx rfl (hb hby at_153) k) ?_
    show own_E p e below _ T171 (mkF m 154 #[iv p1, iv p2, iv p3, iv p4, iv 7, rv b150, iv 1] [.int 1])
    refine own_st (fun t k => XS.goto X171.here hx rfl (pc0 := 154) (pc' := 158) rfl (hb hby at_154) (by decide) (by decide) k) ?_
    show own_E p e below _ T171 (mkF m 158 #[iv p1, iv p2, iv p3, iv p4, iv 7, rv b150, iv 1] [.int 1])
    refine own_st (fun t k => XS.istore X171.here hx rfl (hb hby at_158) rfl (l' := #[iv p1, iv p2, iv p3, iv p4, iv 7, rv b150, iv 1]) rfl k) ?_
    show own_E p e below _ T171 (mkF m 160 #[iv p1, iv p2, iv p3, iv p4, iv 7, rv b150, iv 1] [])
    refine own_st (fun t k => XS.iload X171.here hx rfl (hb hby at_160) rfl k) ?_
    show own_E p e below _ T171 (mkF m 162 #[iv p1, iv p2, iv p3, iv p4, iv 7, rv b150, iv 1] [.int 1])
    refine own_retS X171 hx Bd.notSynchronized Bd.returns rfl (by decide) (hb hby at_162) (by decide) (by decide) ?_
    exact ⟨rfl, N171⟩
  · rw [hs1]
    show own_E p e below _ s₁ (mkF m 9 #[iv p1, iv p2, iv p3, iv p4, iv 8, .unset, .unset] [])
    obtain ⟨T172, h172, X172, e172, E172, A172, D172, -, st172⟩ := newO X0 hx hZ hown (own_w hw 1 rfl) (own_w hw 2 rfl) (own_w hw 3 rfl) e0 (g := (mkF m 9 #[iv p1, iv p2, iv p3, iv p4, iv 8, .unset, .unset] [])) rfl (hb hby at_9) (by decide) (by decide)
    obtain ⟨b172, g172⟩ : ∃ z, z = h0.size := ⟨_, rfl⟩
    rw [← g172] at A172 D172 st172
    have g_b172 : n0 ≤ b172 := Nat.le_trans Z0 (Nat.le_of_eq g172.symm)
    have Z173 := Nat.le_trans Z0 E172.1
    have F_values_b172 : Fld Z h172 b172 "com/example/kalchas/kalchas/IntList" "values" "[I" .null := D172 (Or.inl (own_w hw 12 rfl)) (ty := (.array .int)) (by decide)
    have F_size_b172 : Fld Z h172 b172 "com/example/kalchas/kalchas/IntList" "size" "I" (.int (0 : Int32)) := D172 (Or.inl (own_w hw 19 rfl)) (ty := .int) (by decide)
    refine own_st st172 ?_
    show own_E p e below _ T172 (mkF m 12 #[iv p1, iv p2, iv p3, iv p4, iv 8, .unset, .unset] [.ref b172])
    refine own_st (fun t k => XS.dup X172.here hx rfl (hb hby at_12) rfl rfl k) ?_
    show own_E p e below _ T172 (mkF m 13 #[iv p1, iv p2, iv p3, iv p4, iv 8, .unset, .unset] [.ref b172, .ref b172])
    obtain ⟨_, _, ⟨T174, L174, k174, n174⟩, -, X174, ⟨Lc174, hQ174, l174, y174, z174⟩, st174⟩ := X172.specialBack hx (y := own_y2) rfl hown (mvT hZ (own_w hw 4 rfl)) (mvT hZ (own_w hw 5 rfl)) (mvT hZ (own_w hw 6 rfl)) (by decide) (backOf (W := 1) (own_init l Z a0 hw [] b172 h172 n0 Z173 A172 F_values_b172 F_size_b172 g_b172) hZ (own_w hw 6 rfl) (own_w hw 3 rfl) (by decide) (by decide)) (g := (mkF m 13 #[iv p1, iv p2, iv p3, iv p4, iv 8, .unset, .unset] [.ref b172, .ref b172])) rfl (by rw [hml]; rfl) (Steps.refl _) (a := b172) (argsL := []) (rest := [(.ref b172)]) (lenOf own_pd_1 rfl) rfl (by show 2 * 0 + _ ≤ _; exact Nat.le_of_eq rfl) (hb hby at_13) (fun _ _ => ⟨rfl, e172, (by decide : 1 + 1 ≤ _), (by decide : 2 + 16 ≤ _)⟩)
    dsimp only [Pt.U, Pt.locs, Pt.cells, Pt.slots] at X174 l174 y174 z174 st174 hQ174
    subst l174 y174 z174
    obtain ⟨b174_o0, k174_o1, rfl, Nq174, Kq174, sz174_0, P174_0, P174_1, P174_2, P174_3⟩ := hQ174
    have N174 := Fr.app (Fr.nil n0) Nq174
    have ne_b172_b174_o0 : b172 ≠ b174_o0 := Nat.ne_of_lt (Nat.lt_of_lt_of_le A172.lt sz174_0)
    have g_b174_o0 : n0 ≤ b174_o0 := Nat.le_trans Z173 sz174_0
    have e174 : T174.heap = T174.heap := rfl
    have Z175 := Nat.le_trans Z173 Kq174.1
    refine own_tr st174 ?_
    show own_E p e below _ T174 (mkF m 16 #[iv p1, iv p2, iv p3, iv p4, iv 8, .unset, .unset] [.ref b172])
    refine own_st (fun t k => XS.astore X174.here hx rfl (hb hby at_16) rfl rfl (l' := #[iv p1, iv p2, iv p3, iv p4, iv 8, rv b172, .unset]) rfl k) ?_
    show own_E p e below _ T174 (mkF m 18 #[iv p1, iv p2, iv p3, iv p4, iv 8, rv b172, .unset] [])
    refine own_st (fun t k => XS.aload X174.here hx rfl (hb hby at_18) rfl rfl k) ?_
    show own_E p e below _ T174 (mkF m 20 #[iv p1, iv p2, iv p3, iv p4, iv 8, rv b172, .unset] [.ref b172])
    refine own_st (fun t k => XS.iload X174.here hx rfl (hb hby at_20) rfl k) ?_
    show own_E p e below _ T174 (mkF m 22 #[iv p1, iv p2, iv p3, iv p4, iv 8, rv b172, .unset] [.int 8, .ref b172])
    obtain ⟨cq176, kq176, q176a, q176b, q176c⟩ := isOf hZ e174 P174_0
    obtain ⟨_, _, ⟨T176, L176, k176, n176⟩, -, X176, ⟨Lc176, hQ176, l176, y176, z176⟩, st176⟩ := X174.virtualBack hx (y := own_y3) (z := own_y3) hown (mvT hZ (own_w hw 13 rfl)) (mvT hZ (own_w hw 14 rfl)) (notFace_of_selects (args := #[]) (mvT hZ (own_w hw 16 rfl))) (mvT hZ (own_w hw 16 rfl)) (mvT hZ (own_w hw 15 rfl)) (by decide) (backOf (W := 0) (own_trunc l Z a0 hw [] b172 b174_o0 (8 : Int32) (0 : Int32) T174.heap n0 Z175 P174_0 P174_1 P174_2 g_b172) hZ (own_w hw 17 rfl) (own_w hw 3 rfl) (by decide) (by decide)) q176a q176c (g := (mkF m 22 #[iv p1, iv p2, iv p3, iv p4, iv 8, rv b172, .unset] [.int 8, .ref b172])) rfl (by rw [hml]; rfl) (Steps.refl _) (argsL := [(.int (8 : Int32))]) (rest := []) (lenOf own_pd_3 rfl) rfl (by show 2 * 0 + _ ≤ _; exact Nat.le_of_eq rfl) (hb hby at_22) (fun _ _ => ⟨rfl, e174, (by decide : 2 + 0 ≤ _), (by decide : 18 + 0 ≤ _)⟩)
    dsimp only [Pt.U, Pt.locs, Pt.cells, Pt.slots] at X176 l176 y176 z176 st176 hQ176
    subst l176 y176 z176
    obtain ⟨rfl, Nq176, Kq176, P176_0, P176_1, P176_2⟩ := hQ176
    have N176 := Fr.app N174 Nq176
    have e176 : T176.heap = T176.heap := rfl
    have Z177 := Nat.le_trans Z175 Kq176.1
    refine own_tr st176 ?_
    show own_E p e below _ T176 (mkF m 25 #[iv p1, iv p2, iv p3, iv p4, iv 8, rv b172, .unset] [])
    refine own_st (fun t k => XS.iload X176.here hx rfl (hb hby at_25) rfl k) ?_
    show own_E p e below _ T176 (mkF m 27 #[iv p1, iv p2, iv p3, iv p4, iv 8, rv b172, .unset] [.int 8])
    refine own_st (fun t k => XS.ifNo X176.here hx rfl (hb hby at_27) rfl (by decide) k) ?_
    show own_E p e below _ T176 (mkF m 30 #[iv p1, iv p2, iv p3, iv p4, iv 8, rv b172, .unset] [])
    refine own_st (fun t k => XS.aload X176.here hx rfl (hb hby at_30) rfl rfl k) ?_
    show own_E p e below _ T176 (mkF m 32 #[iv p1, iv p2, iv p3, iv p4, iv 8, rv b172, .unset] [.ref b172])
    refine own_st (fun t k => XS.iload X176.here hx rfl (hb hby at_32) rfl k) ?_
    show own_E p e below _ T176 (mkF m 34 #[iv p1, iv p2, iv p3, iv p4, iv 8, rv b172, .unset] [.int 8, .ref b172])
    refine own_st (fun t k => XS.iconst X176.here hx rfl (hb hby at_34) k) ?_
    show own_E p e below _ T176 (mkF m 35 #[iv p1, iv p2, iv p3, iv p4, iv 8, rv b172, .unset] [.int 1, .int 8, .ref b172])
    refine own_st (fun t k => XS.isub X176.here hx rfl (hb hby at_35) rfl k) ?_
    show own_E p e below _ T176 (mkF m 36 #[iv p1, iv p2, iv p3, iv p4, iv 8, rv b172, .unset] [.int 7, .ref b172])
    refine own_st (fun t k => XS.iloadN X176.here hx rfl (hb hby at_36) rfl k) ?_
    show own_E p e below _ T176 (mkF m 37 #[iv p1, iv p2, iv p3, iv p4, iv 8, rv b172, .unset] [.int p3, .int 7, .ref b172])
    have B178 := (P174_3.keep Kq176 (ninS (Ne.symm ne_b172_b174_o0) nin0))
    obtain ⟨cq179, kq179, q179a, q179b, q179c⟩ := isOf hZ e176 P176_0
    obtain ⟨_, _, ⟨T179, L179, k179, n179⟩, -, X179, ⟨Lc179, hQ179, l179, y179, z179⟩, st179⟩ := X176.virtualBack hx (y := own_y4) (z := own_y4) hown (mvT hZ (own_w hw 20 rfl)) (mvT hZ (own_w hw 21 rfl)) (notFace_of_selects (args := #[]) (mvT hZ (own_w hw 23 rfl))) (mvT hZ (own_w hw 23 rfl)) (mvT hZ (own_w hw 22 rfl)) (by decide) (backOf (W := 0) (own_set7 l Z a0 hw [] b172 b174_o0 k174_o1 p3 (0 : Int32) (0 : Int32) (0 : Int32) (0 : Int32) (0 : Int32) (0 : Int32) (0 : Int32) (0 : Int32) (0 : Int32) (0 : Int32) (0 : Int32) (0 : Int32) (0 : Int32) (0 : Int32) (0 : Int32) (0 : Int32) T176.heap n0 Z177 P176_1 B178 ne_b172_b174_o0 g_b174_o0) hZ (own_w hw 24 rfl) (own_w hw 3 rfl) (by decide) (by decide)) q179a q179c (g := (mkF m 37 #[iv p1, iv p2, iv p3, iv p4, iv 8, rv b172, .unset] [.int p3, .int 7, .ref b172])) rfl (by rw [hml]; rfl) (Steps.refl _) (argsL := [(.int (7 : Int32)), (.int p3)]) (rest := []) (lenOf own_pd_5 rfl) rfl (by show 2 * 0 + _ ≤ _; exact Nat.le_of_eq rfl) (hb hby at_37) (fun _ _ => ⟨rfl, e176, (by decide : 2 + 0 ≤ _), (by decide : 18 + 0 ≤ _)⟩)
    dsimp only [Pt.U, Pt.locs, Pt.cells, Pt.slots] at X179 l179 y179 z179 st179 hQ179
    subst l179 y179 z179
    obtain ⟨rfl, Nq179, Kq179, P179_0⟩ := hQ179
    have N179 := Fr.app N176 Nq179
    have e179 : T179.heap = T179.heap := rfl
    have Z180 := Nat.le_trans Z177 Kq179.1
    refine own_tr st179 ?_
    show own_E p e below _ T179 (mkF m 40 #[iv p1, iv p2, iv p3, iv p4, iv 8, rv b172, .unset] [])
    refine own_st (fun t k => XS.aload X179.here hx rfl (hb hby at_40) rfl rfl k) ?_
    show own_E p e below _ T179 (mkF m 42 #[iv p1, iv p2, iv p3, iv p4, iv 8, rv b172, .unset] [.ref b172])
    refine own_st (fun t k => XS.iloadN X179.here hx rfl (hb hby at_42) rfl k) ?_
    show own_E p e below _ T179 (mkF m 43 #[iv p1, iv p2, iv p3, iv p4, iv 8, rv b172, .unset] [.int p1, .ref b172])
    have B181 := (P176_0.keep Kq179)
    have B182 := (P176_1.keep Kq179 (ninS ne_b172_b174_o0 nin0))
    have B183 := (P176_2.keep Kq179 (ninS ne_b172_b174_o0 nin0))
    obtain ⟨cq184, kq184, q184a, q184b, q184c⟩ := isOf hZ e179 B181
    obtain ⟨_, _, ⟨T184, L184, k184, n184⟩, -, X184, ⟨Lc184, hQ184, l184, y184, z184⟩, st184⟩ := X179.virtualBack hx (y := own_y5) (z := own_y5) hown (mvT hZ (own_w hw 25 rfl)) (mvT hZ (own_w hw 26 rfl)) (notFace_of_selects (args := #[]) (mvT hZ (own_w hw 28 rfl))) (mvT hZ (own_w hw 28 rfl)) (mvT hZ (own_w hw 27 rfl)) (by decide) (backOf (W := 0) (own_add8 l Z a0 hw [] b172 b174_o0 k174_o1 p1 (0 : Int32) (0 : Int32) (0 : Int32) (0 : Int32) (0 : Int32) (0 : Int32) (0 : Int32) p3 (0 : Int32) (0 : Int32) (0 : Int32) (0 : Int32) (0 : Int32) (0 : Int32) (0 : Int32) (0 : Int32) T179.heap n0 Z180 B181 B182 B183 P179_0 ne_b172_b174_o0 g_b172 g_b174_o0) hZ (own_w hw 29 rfl) (own_w hw 3 rfl) (by decide) (by decide)) q184a q184c (g := (mkF m 43 #[iv p1, iv p2, iv p3, iv p4, iv 8, rv b172, .unset] [.int p1, .ref b172])) rfl (by rw [hml]; rfl) (Steps.refl _) (argsL := [(.int p1)]) (rest := []) (lenOf own_pd_3 rfl) rfl (by show 2 * 0 + _ ≤ _; exact Nat.le_of_eq rfl) (hb hby at_43) (fun _ _ => ⟨rfl, e179, (by decide : 2 + 0 ≤ _), (by decide : 18 + 0 ≤ _)⟩)
    dsimp only [Pt.U, Pt.locs, Pt.cells, Pt.slots] at X184 l184 y184 z184 st184 hQ184
    subst l184 y184 z184
    obtain ⟨rfl, Nq184, Kq184, P184_0, P184_1, P184_2, P184_3⟩ := hQ184
    have N184 := Fr.app N179 Nq184
    have e184 : T184.heap = T184.heap := rfl
    have Z185 := Nat.le_trans Z180 Kq184.1
    refine own_tr st184 ?_
    show own_E p e below _ T184 (mkF m 46 #[iv p1, iv p2, iv p3, iv p4, iv 8, rv b172, .unset] [])
    refine own_st (fun t k => XS.aload X184.here hx rfl (hb hby at_46) rfl rfl k) ?_
    show own_E p e below _ T184 (mkF m 48 #[iv p1, iv p2, iv p3, iv p4, iv 8, rv b172, .unset] [.ref b172])
    obtain ⟨cq186, kq186, q186a, q186b, q186c⟩ := isOf hZ e184 P184_0
    obtain ⟨_, _, ⟨T186, L186, k186, n186⟩, -, X186, ⟨Lc186, hQ186, l186, y186, z186⟩, st186⟩ := X184.virtualBack hx (y := own_y7) (z := own_y7) hown (mvT hZ (own_w hw 30 rfl)) (mvT hZ (own_w hw 31 rfl)) (notFace_of_selects (args := #[]) (mvT hZ (own_w hw 33 rfl))) (mvT hZ (own_w hw 33 rfl)) (mvT hZ (own_w hw 32 rfl)) (by decide) (backOf (W := 0) (own_size l Z a0 hw [] b172 (9 : Int32) T184.heap n0 Z185 P184_2) hZ (own_w hw 34 rfl) (own_w hw 3 rfl) (by decide) (by decide)) q186a q186c (g := (mkF m 48 #[iv p1, iv p2, iv p3, iv p4, iv 8, rv b172, .unset] [.ref b172])) rfl (by rw [hml]; rfl) (Steps.refl _) (argsL := []) (rest := []) (lenOf own_pd_0 rfl) rfl (by show 2 * 0 + _ ≤ _; exact Nat.le_of_eq rfl) (hb hby at_48) (fun _ _ => ⟨rfl, e184, (by decide : 2 + 0 ≤ _), (by decide : 18 + 0 ≤ _)⟩)
    dsimp only [Pt.U, Pt.locs, Pt.cells, Pt.slots] at X186 l186 y186 z186 st186 hQ186
    subst l186 y186 z186
    obtain ⟨hR186, e186, rfl⟩ := hQ186
    have N186 := Fr.app N184 (Fr.nil n0)
    obtain rfl := hR186
    refine own_tr st186 ?_
    show own_E p e below _ T186 (mkF m 51 #[iv p1, iv p2, iv p3, iv p4, iv 8, rv b172, .unset] [.int 9])
    refine own_st (fun t k => XS.iload X186.here hx rfl (hb hby at_51) rfl k) ?_
    show own_E p e below _ T186 (mkF m 53 #[iv p1, iv p2, iv p3, iv p4, iv 8, rv b172, .unset] [.int 8, .int 9])
    refine own_st (fun t k => XS.iconst X186.here hx rfl (hb hby at_53) k) ?_
    show own_E p e below _ T186 (mkF m 54 #[iv p1, iv p2, iv p3, iv p4, iv 8, rv b172, .unset] [.int 1, .int 8, .int 9])
    refine own_st (fun t k => XS.iadd X186.here hx rfl (hb hby at_54) rfl k) ?_
    show own_E p e below _ T186 (mkF m 55 #[iv p1, iv p2, iv p3, iv p4, iv 8, rv b172, .unset] [.int 9, .int 9])
    refine own_st (fun t k => XS.icmpNo X186.here hx rfl (hb hby at_55) rfl (by decide) k) ?_
    show own_E p e below _ T186 (mkF m 58 #[iv p1, iv p2, iv p3, iv p4, iv 8, rv b172, .unset] [])
    refine own_st (fun t k => XS.aload X186.here hx rfl (hb hby at_58) rfl rfl k) ?_
    show own_E p e below _ T186 (mkF m 60 #[iv p1, iv p2, iv p3, iv p4, iv 8, rv b172, .unset] [.ref b172])
    refine own_st (fun t k => XS.iload X186.here hx rfl (hb hby at_60) rfl k) ?_
    show own_E p e below _ T186 (mkF m 62 #[iv p1, iv p2, iv p3, iv p4, iv 8, rv b172, .unset] [.int 8, .ref b172])
    obtain ⟨cq187, kq187, q187a, q187b, q187c⟩ := isOf hZ e186 P184_0
    obtain ⟨_, _, ⟨T187, L187, k187, n187⟩, -, X187, ⟨Lc187, hQ187, l187, y187, z187⟩, st187⟩ := X186.virtualBack hx (y := own_y6) (z := own_y6) hown (mvT hZ (own_w hw 35 rfl)) (mvT hZ (own_w hw 36 rfl)) (notFace_of_selects (args := #[]) (mvT hZ (own_w hw 38 rfl))) (mvT hZ (own_w hw 38 rfl)) (mvT hZ (own_w hw 37 rfl)) (by decide) (backOf (W := 0) (own_get16_8 l Z a0 hw [] b172 b174_o0 k174_o1 (0 : Int32) (0 : Int32) (0 : Int32) (0 : Int32) (0 : Int32) (0 : Int32) (0 : Int32) p3 p1 (0 : Int32) (0 : Int32) (0 : Int32) (0 : Int32) (0 : Int32) (0 : Int32) (0 : Int32) T184.heap n0 Z185 P184_1 P184_3) hZ (own_w hw 39 rfl) (own_w hw 3 rfl) (by decide) (by decide)) q187a q187c (g := (mkF m 62 #[iv p1, iv p2, iv p3, iv p4, iv 8, rv b172, .unset] [.int 8, .ref b172])) rfl (by rw [hml]; rfl) (Steps.refl _) (argsL := [(.int (8 : Int32))]) (rest := []) (lenOf own_pd_2 rfl) rfl (by show 2 * 0 + _ ≤ _; exact Nat.le_of_eq rfl) (hb hby at_62) (fun _ _ => ⟨rfl, e186, (by decide : 2 + 0 ≤ _), (by decide : 18 + 0 ≤ _)⟩)
    dsimp only [Pt.U, Pt.locs, Pt.cells, Pt.slots] at X187 l187 y187 z187 st187 hQ187
    subst l187 y187 z187
    obtain ⟨hR187, e187, rfl⟩ := hQ187
    have N187 := Fr.app N186 (Fr.nil n0)
    obtain rfl := hR187
    refine own_tr st187 ?_
    show own_E p e below _ T187 (mkF m 65 #[iv p1, iv p2, iv p3, iv p4, iv 8, rv b172, .unset] [.int p1])
    refine own_st (fun t k => XS.iloadN X187.here hx rfl (hb hby at_65) rfl k) ?_
    show own_E p e below _ T187 (mkF m 66 #[iv p1, iv p2, iv p3, iv p4, iv 8, rv b172, .unset] [.int p1, .int p1])
    refine own_st (fun t k => XS.icmpNo X187.here hx rfl (hb hby at_66) rfl (teq rfl).2 k) ?_
    show own_E p e below _ T187 (mkF m 69 #[iv p1, iv p2, iv p3, iv p4, iv 8, rv b172, .unset] [])
    refine own_st (fun t k => XS.iconst X187.here hx rfl (hb hby at_69) k) ?_
    show own_E p e below _ T187 (mkF m 70 #[iv p1, iv p2, iv p3, iv p4, iv 8, rv b172, .unset] [.int 1])
    refine own_st (fun t k => XS.goto X187.here hx rfl (pc0 := 70) (pc' := 74) rfl (hb hby at_70) (by decide) (by decide) k) ?_
    show own_E p e below _ T187 (mkF m 74 #[iv p1, iv p2, iv p3, iv p4, iv 8, rv b172, .unset] [.int 1])
    refine own_st (fun t k => XS.istore X187.here hx rfl (hb hby at_74) rfl (l' := #[iv p1, iv p2, iv p3, iv p4, iv 8, rv b172, iv 1]) rfl k) ?_
    show own_E p e below _ T187 (mkF m 76 #[iv p1, iv p2, iv p3, iv p4, iv 8, rv b172, iv 1] [])
    refine own_st (fun t k => XS.aload X187.here hx rfl (hb hby at_76) rfl rfl k) ?_
    show own_E p e below _ T187 (mkF m 78 #[iv p1, iv p2, iv p3, iv p4, iv 8, rv b172, iv 1] [.ref b172])
    refine own_st (fun t k => XS.iloadN X187.here hx rfl (hb hby at_78) rfl k) ?_
    show own_E p e below _ T187 (mkF m 79 #[iv p1, iv p2, iv p3, iv p4, iv 8, rv b172, iv 1] [.int p2, .ref b172])
    obtain ⟨cq188, kq188, q188a, q188b, q188c⟩ := isOf hZ e187 P184_0
    obtain ⟨_, _, ⟨T188, L188, k188, n188⟩, -, X188, ⟨Lc188, hQ188, l188, y188, z188⟩, st188⟩ := X187.virtualBack hx (y := own_y5) (z := own_y5) hown (mvT hZ (own_w hw 25 rfl)) (mvT hZ (own_w hw 26 rfl)) (notFace_of_selects (args := #[]) (mvT hZ (own_w hw 28 rfl))) (mvT hZ (own_w hw 28 rfl)) (mvT hZ (own_w hw 27 rfl)) (by decide) (backOf (W := 0) (own_add9 l Z a0 hw [] b172 b174_o0 k174_o1 p2 (0 : Int32) (0 : Int32) (0 : Int32) (0 : Int32) (0 : Int32) (0 : Int32) (0 : Int32) p3 p1 (0 : Int32) (0 : Int32) (0 : Int32) (0 : Int32) (0 : Int32) (0 : Int32) (0 : Int32) T184.heap n0 Z185 P184_0 P184_1 P184_2 P184_3 ne_b172_b174_o0 g_b172 g_b174_o0) hZ (own_w hw 29 rfl) (own_w hw 3 rfl) (by decide) (by decide)) q188a q188c (g := (mkF m 79 #[iv p1, iv p2, iv p3, iv p4, iv 8, rv b172, iv 1] [.int p2, .ref b172])) rfl (by rw [hml]; rfl) (Steps.refl _) (argsL := [(.int p2)]) (rest := []) (lenOf own_pd_3 rfl) rfl (by show 2 * 0 + _ ≤ _; exact Nat.le_of_eq rfl) (hb hby at_79) (fun _ _ => ⟨rfl, e187, (by decide : 2 + 0 ≤ _), (by decide : 18 + 0 ≤ _)⟩)
    dsimp only [Pt.U, Pt.locs, Pt.cells, Pt.slots] at X188 l188 y188 z188 st188 hQ188
    subst l188 y188 z188
    obtain ⟨rfl, Nq188, Kq188, P188_0, P188_1, P188_2, P188_3⟩ := hQ188
    have N188 := Fr.app N187 Nq188
    have e188 : T188.heap = T188.heap := rfl
    have Z189 := Nat.le_trans Z185 Kq188.1
    refine own_tr st188 ?_
    show own_E p e below _ T188 (mkF m 82 #[iv p1, iv p2, iv p3, iv p4, iv 8, rv b172, iv 1] [])
    refine own_st (fun t k => XS.iload X188.here hx rfl (hb hby at_82) rfl k) ?_
    show own_E p e below _ T188 (mkF m 84 #[iv p1, iv p2, iv p3, iv p4, iv 8, rv b172, iv 1] [.int 1])
    refine own_st (fun t k => XS.ifNo X188.here hx rfl (hb hby at_84) rfl (by decide) k) ?_
    show own_E p e below _ T188 (mkF m 87 #[iv p1, iv p2, iv p3, iv p4, iv 8, rv b172, iv 1] [])
    refine own_st (fun t k => XS.aload X188.here hx rfl (hb hby at_87) rfl rfl k) ?_
    show own_E p e below _ T188 (mkF m 89 #[iv p1, iv p2, iv p3, iv p4, iv 8, rv b172, iv 1] [.ref b172])
    obtain ⟨cq190, kq190, q190a, q190b, q190c⟩ := isOf hZ e188 P188_0
    obtain ⟨_, _, ⟨T190, L190, k190, n190⟩, -, X190, ⟨Lc190, hQ190, l190, y190, z190⟩, st190⟩ := X188.virtualBack hx (y := own_y7) (z := own_y7) hown (mvT hZ (own_w hw 30 rfl)) (mvT hZ (own_w hw 31 rfl)) (notFace_of_selects (args := #[]) (mvT hZ (own_w hw 33 rfl))) (mvT hZ (own_w hw 33 rfl)) (mvT hZ (own_w hw 32 rfl)) (by decide) (backOf (W := 0) (own_size l Z a0 hw [] b172 (10 : Int32) T188.heap n0 Z189 P188_2) hZ (own_w hw 34 rfl) (own_w hw 3 rfl) (by decide) (by decide)) q190a q190c (g := (mkF m 89 #[iv p1, iv p2, iv p3, iv p4, iv 8, rv b172, iv 1] [.ref b172])) rfl (by rw [hml]; rfl) (Steps.refl _) (argsL := []) (rest := []) (lenOf own_pd_0 rfl) rfl (by show 2 * 0 + _ ≤ _; exact Nat.le_of_eq rfl) (hb hby at_89) (fun _ _ => ⟨rfl, e188, (by decide : 2 + 0 ≤ _), (by decide : 18 + 0 ≤ _)⟩)
    dsimp only [Pt.U, Pt.locs, Pt.cells, Pt.slots] at X190 l190 y190 z190 st190 hQ190
    subst l190 y190 z190
    obtain ⟨hR190, e190, rfl⟩ := hQ190
    have N190 := Fr.app N188 (Fr.nil n0)
    obtain rfl := hR190
    refine own_tr st190 ?_
    show own_E p e below _ T190 (mkF m 92 #[iv p1, iv p2, iv p3, iv p4, iv 8, rv b172, iv 1] [.int 10])
    refine own_st (fun t k => XS.iload X190.here hx rfl (hb hby at_92) rfl k) ?_
    show own_E p e below _ T190 (mkF m 94 #[iv p1, iv p2, iv p3, iv p4, iv 8, rv b172, iv 1] [.int 8, .int 10])
    refine own_st (fun t k => XS.iconst X190.here hx rfl (hb hby at_94) k) ?_
    show own_E p e below _ T190 (mkF m 95 #[iv p1, iv p2, iv p3, iv p4, iv 8, rv b172, iv 1] [.int 2, .int 8, .int 10])
    refine own_st (fun t k => XS.iadd X190.here hx rfl (hb hby at_95) rfl k) ?_
    show own_E p e below _ T190 (mkF m 96 #[iv p1, iv p2, iv p3, iv p4, iv 8, rv b172, iv 1] [.int 10, .int 10])
    refine own_st (fun t k => XS.icmpNo X190.here hx rfl (hb hby at_96) rfl (by decide) k) ?_
    show own_E p e below _ T190 (mkF m 99 #[iv p1, iv p2, iv p3, iv p4, iv 8, rv b172, iv 1] [])
    refine own_st (fun t k => XS.aload X190.here hx rfl (hb hby at_99) rfl rfl k) ?_
    show own_E p e below _ T190 (mkF m 101 #[iv p1, iv p2, iv p3, iv p4, iv 8, rv b172, iv 1] [.ref b172])
    refine own_st (fun t k => XS.iload X190.here hx rfl (hb hby at_101) rfl k) ?_
    show own_E p e below _ T190 (mkF m 103 #[iv p1, iv p2, iv p3, iv p4, iv 8, rv b172, iv 1] [.int 8, .ref b172])
    obtain ⟨cq191, kq191, q191a, q191b, q191c⟩ := isOf hZ e190 P188_0
    obtain ⟨_, _, ⟨T191, L191, k191, n191⟩, -, X191, ⟨Lc191, hQ191, l191, y191, z191⟩, st191⟩ := X190.virtualBack hx (y := own_y6) (z := own_y6) hown (mvT hZ (own_w hw 35 rfl)) (mvT hZ (own_w hw 36 rfl)) (notFace_of_selects (args := #[]) (mvT hZ (own_w hw 38 rfl))) (mvT hZ (own_w hw 38 rfl)) (mvT hZ (own_w hw 37 rfl)) (by decide) (backOf (W := 0) (own_get16_8 l Z a0 hw [] b172 b174_o0 k174_o1 (0 : Int32) (0 : Int32) (0 : Int32) (0 : Int32) (0 : Int32) (0 : Int32) (0 : Int32) p3 p1 p2 (0 : Int32) (0 : Int32) (0 : Int32) (0 : Int32) (0 : Int32) (0 : Int32) T188.heap n0 Z189 P188_1 P188_3) hZ (own_w hw 39 rfl) (own_w hw 3 rfl) (by decide) (by decide)) q191a q191c (g := (mkF m 103 #[iv p1, iv p2, iv p3, iv p4, iv 8, rv b172, iv 1] [.int 8, .ref b172])) rfl (by rw [hml]; rfl) (Steps.refl _) (argsL := [(.int (8 : Int32))]) (rest := []) (lenOf own_pd_2 rfl) rfl (by show 2 * 0 + _ ≤ _; exact Nat.le_of_eq rfl) (hb hby at_103) (fun _ _ => ⟨rfl, e190, (by decide : 2 + 0 ≤ _), (by decide : 18 + 0 ≤ _)⟩)
    dsimp only [Pt.U, Pt.locs, Pt.cells, Pt.slots] at X191 l191 y191 z191 st191 hQ191
    subst l191 y191 z191
    obtain ⟨hR191, e191, rfl⟩ := hQ191
    have N191 := Fr.app N190 (Fr.nil n0)
    obtain rfl := hR191
    refine own_tr st191 ?_
    show own_E p e below _ T191 (mkF m 106 #[iv p1, iv p2, iv p3, iv p4, iv 8, rv b172, iv 1] [.int p1])
    refine own_st (fun t k => XS.iloadN X191.here hx rfl (hb hby at_106) rfl k) ?_
    show own_E p e below _ T191 (mkF m 107 #[iv p1, iv p2, iv p3, iv p4, iv 8, rv b172, iv 1] [.int p1, .int p1])
    refine own_st (fun t k => XS.icmpNo X191.here hx rfl (hb hby at_107) rfl (teq rfl).2 k) ?_
    show own_E p e below _ T191 (mkF m 110 #[iv p1, iv p2, iv p3, iv p4, iv 8, rv b172, iv 1] [])
    refine own_st (fun t k => XS.aload X191.here hx rfl (hb hby at_110) rfl rfl k) ?_
    show own_E p e below _ T191 (mkF m 112 #[iv p1, iv p2, iv p3, iv p4, iv 8, rv b172, iv 1] [.ref b172])
    refine own_st (fun t k => XS.iload X191.here hx rfl (hb hby at_112) rfl k) ?_
    show own_E p e below _ T191 (mkF m 114 #[iv p1, iv p2, iv p3, iv p4, iv 8, rv b172, iv 1] [.int 8, .ref b172])
    refine own_st (fun t k => XS.iconst X191.here hx rfl (hb hby at_114) k) ?_
    show own_E p e below _ T191 (mkF m 115 #[iv p1, iv p2, iv p3, iv p4, iv 8, rv b172, iv 1] [.int 1, .int 8, .ref b172])
    refine own_st (fun t k => XS.iadd X191.here hx rfl (hb hby at_115) rfl k) ?_
    show own_E p e below _ T191 (mkF m 116 #[iv p1, iv p2, iv p3, iv p4, iv 8, rv b172, iv 1] [.int 9, .ref b172])
    obtain ⟨cq192, kq192, q192a, q192b, q192c⟩ := isOf hZ e191 P188_0
    obtain ⟨_, _, ⟨T192, L192, k192, n192⟩, -, X192, ⟨Lc192, hQ192, l192, y192, z192⟩, st192⟩ := X191.virtualBack hx (y := own_y6) (z := own_y6) hown (mvT hZ (own_w hw 35 rfl)) (mvT hZ (own_w hw 36 rfl)) (notFace_of_selects (args := #[]) (mvT hZ (own_w hw 38 rfl))) (mvT hZ (own_w hw 38 rfl)) (mvT hZ (own_w hw 37 rfl)) (by decide) (backOf (W := 0) (own_get16_9 l Z a0 hw [] b172 b174_o0 k174_o1 (0 : Int32) (0 : Int32) (0 : Int32) (0 : Int32) (0 : Int32) (0 : Int32) (0 : Int32) p3 p1 p2 (0 : Int32) (0 : Int32) (0 : Int32) (0 : Int32) (0 : Int32) (0 : Int32) T188.heap n0 Z189 P188_1 P188_3) hZ (own_w hw 39 rfl) (own_w hw 3 rfl) (by decide) (by decide)) q192a q192c (g := (mkF m 116 #[iv p1, iv p2, iv p3, iv p4, iv 8, rv b172, iv 1] [.int 9, .ref b172])) rfl (by rw [hml]; rfl) (Steps.refl _) (argsL := [(.int (9 : Int32))]) (rest := []) (lenOf own_pd_2 rfl) rfl (by show 2 * 0 + _ ≤ _; exact Nat.le_of_eq rfl) (hb hby at_116) (fun _ _ => ⟨rfl, e191, (by decide : 2 + 0 ≤ _), (by decide : 18 + 0 ≤ _)⟩)
    dsimp only [Pt.U, Pt.locs, Pt.cells, Pt.slots] at X192 l192 y192 z192 st192 hQ192
    subst l192 y192 z192
    obtain ⟨hR192, e192, rfl⟩ := hQ192
    have N192 := Fr.app N191 (Fr.nil n0)
    obtain rfl := hR192
    refine own_tr st192 ?_
    show own_E p e below _ T192 (mkF m 119 #[iv p1, iv p2, iv p3, iv p4, iv 8, rv b172, iv 1] [.int p2])
    refine own_st (fun t k => XS.iloadN X192.here hx rfl (hb hby at_119) rfl k) ?_
    show own_E p e below _ T192 (mkF m 120 #[iv p1, iv p2, iv p3, iv p4, iv 8, rv b172, iv 1] [.int p2, .int p2])
    refine own_st (fun t k => XS.icmpNo X192.here hx rfl (hb hby at_120) rfl (teq rfl).2 k) ?_
    show own_E p e below _ T192 (mkF m 123 #[iv p1, iv p2, iv p3, iv p4, iv 8, rv b172, iv 1] [])
    refine own_st (fun t k => XS.iconst X192.here hx rfl (hb hby at_123) k) ?_
    show own_E p e below _ T192 (mkF m 124 #[iv p1, iv p2, iv p3, iv p4, iv 8, rv b172, iv 1] [.int 1])
    refine own_st (fun t k => XS.goto X192.here hx rfl (pc0 := 124) (pc' := 128) rfl (hb hby at_124) (by decide) (by decide) k) ?_
    show own_E p e below _ T192 (mkF m 128 #[iv p1, iv p2, iv p3, iv p4, iv 8, rv b172, iv 1] [.int 1])
    refine own_st (fun t k => XS.istore X192.here hx rfl (hb hby at_128) rfl (l' := #[iv p1, iv p2, iv p3, iv p4, iv 8, rv b172, iv 1]) rfl k) ?_
    show own_E p e below _ T192 (mkF m 130 #[iv p1, iv p2, iv p3, iv p4, iv 8, rv b172, iv 1] [])
    refine own_st (fun t k => XS.iload X192.here hx rfl (hb hby at_130) rfl k) ?_
    show own_E p e below _ T192 (mkF m 132 #[iv p1, iv p2, iv p3, iv p4, iv 8, rv b172, iv 1] [.int 8])
    refine own_st (fun t k => XS.ifNo X192.here hx rfl (hb hby at_132) rfl (by decide) k) ?_
    show own_E p e below _ T192 (mkF m 135 #[iv p1, iv p2, iv p3, iv p4, iv 8, rv b172, iv 1] [])
    refine own_st (fun t k => XS.iload X192.here hx rfl (hb hby at_135) rfl k) ?_
    show own_E p e below _ T192 (mkF m 137 #[iv p1, iv p2, iv p3, iv p4, iv 8, rv b172, iv 1] [.int 1])
    refine own_st (fun t k => XS.ifNo X192.here hx rfl (hb hby at_137) rfl (by decide) k) ?_
    show own_E p e below _ T192 (mkF m 140 #[iv p1, iv p2, iv p3, iv p4, iv 8, rv b172, iv 1] [])
    refine own_st (fun t k => XS.aload X192.here hx rfl (hb hby at_140) rfl rfl k) ?_
    show own_E p e below _ T192 (mkF m 142 #[iv p1, iv p2, iv p3, iv p4, iv 8, rv b172, iv 1] [.ref b172])
    refine own_st (fun t k => XS.iload X192.here hx rfl (hb hby at_142) rfl k) ?_
    show own_E p e below _ T192 (mkF m 144 #[iv p1, iv p2, iv p3, iv p4, iv 8, rv b172, iv 1] [.int 8, .ref b172])
    refine own_st (fun t k => XS.iconst X192.here hx rfl (hb hby at_144) k) ?_
    show own_E p e below _ T192 (mkF m 145 #[iv p1, iv p2, iv p3, iv p4, iv 8, rv b172, iv 1] [.int 1, .int 8, .ref b172])
    refine own_st (fun t k => XS.isub X192.here hx rfl (hb hby at_145) rfl k) ?_
    show own_E p e below _ T192 (mkF m 146 #[iv p1, iv p2, iv p3, iv p4, iv 8, rv b172, iv 1] [.int 7, .ref b172])
    obtain ⟨cq193, kq193, q193a, q193b, q193c⟩ := isOf hZ e192 P188_0
    obtain ⟨_, _, ⟨T193, L193, k193, n193⟩, -, X193, ⟨Lc193, hQ193, l193, y193, z193⟩, st193⟩ := X192.virtualBack hx (y := own_y6) (z := own_y6) hown (mvT hZ (own_w hw 35 rfl)) (mvT hZ (own_w hw 36 rfl)) (notFace_of_selects (args := #[]) (mvT hZ (own_w hw 38 rfl))) (mvT hZ (own_w hw 38 rfl)) (mvT hZ (own_w hw 37 rfl)) (by decide) (backOf (W := 0) (own_get16_7 l Z a0 hw [] b172 b174_o0 k174_o1 (0 : Int32) (0 : Int32) (0 : Int32) (0 : Int32) (0 : Int32) (0 : Int32) (0 : Int32) p3 p1 p2 (0 : Int32) (0 : Int32) (0 : Int32) (0 : Int32) (0 : Int32) (0 : Int32) T188.heap n0 Z189 P188_1 P188_3) hZ (own_w hw 39 rfl) (own_w hw 3 rfl) (by decide) (by decide)) q193a q193c (g := (mkF m 146 #[iv p1, iv p2, iv p3, iv p4, iv 8, rv b172, iv 1] [.int 7, .ref b172])) rfl (by rw [hml]; rfl) (Steps.refl _) (argsL := [(.int (7 : Int32))]) (rest := []) (lenOf own_pd_2 rfl) rfl (by show 2 * 0 + _ ≤ _; exact Nat.le_of_eq rfl) (hb hby at_146) (fun _ _ => ⟨rfl, e192, (by decide : 2 + 0 ≤ _), (by decide : 18 + 0 ≤ _)⟩)
    dsimp only [Pt.U, Pt.locs, Pt.cells, Pt.slots] at X193 l193 y193 z193 st193 hQ193
    subst l193 y193 z193
    obtain ⟨hR193, e193, rfl⟩ := hQ193
    have N193 := Fr.app N192 (Fr.nil n0)
    obtain rfl := hR193
    refine own_tr st193 ?_
    show own_E p e below _ T193 (mkF m 149 #[iv p1, iv p2, iv p3, iv p4, iv 8, rv b172, iv 1] [.int p3])
    refine own_st (fun t k => XS.iloadN X193.here hx rfl (hb hby at_149) rfl k) ?_
    show own_E p e below _ T193 (mkF m 150 #[iv p1, iv p2, iv p3, iv p4, iv 8, rv b172, iv 1] [.int p3, .int p3])
    refine own_st (fun t k => XS.icmpNo X193.here hx rfl (hb hby at_150) rfl (teq rfl).2 k) ?_
    show own_E p e below _ T193 (mkF m 153 #[iv p1, iv p2, iv p3, iv p4, iv 8, rv b172, iv 1] [])
    refine own_st (fun t k => XS.iconst X193.here hx rfl (hb hby at_153) k) ?_
    show own_E p e below _ T193 (mkF m 154 #[iv p1, iv p2, iv p3, iv p4, iv 8, rv b172, iv 1] [.int 1])
    refine own_st (fun t k => XS.goto X193.here hx rfl (pc0 := 154) (pc' := 158) rfl (hb hby at_154) (by decide) (by decide) k) ?_
    show own_E p e below _ T193 (mkF m 158 #[iv p1, iv p2, iv p3, iv p4, iv 8, rv b172, iv 1] [.int 1])
    refine own_st (fun t k => XS.istore X193.here hx rfl (hb hby at_158) rfl (l' := #[iv p1, iv p2, iv p3, iv p4, iv 8, rv b172, iv 1]) rfl k) ?_
    show own_E p e below _ T193 (mkF m 160 #[iv p1, iv p2, iv p3, iv p4, iv 8, rv b172, iv 1] [])
    refine own_st (fun t k => XS.iload X193.here hx rfl (hb hby at_160) rfl k) ?_
    show own_E p e below _ T193 (mkF m 162 #[iv p1, iv p2, iv p3, iv p4, iv 8, rv b172, iv 1] [.int 1])
    refine own_retS X193 hx Bd.notSynchronized Bd.returns rfl (by decide) (hb hby at_162) (by decide) (by decide) ?_
    exact ⟨rfl, N193⟩
  · rw [hs1]
    show own_E p e below _ s₁ (mkF m 9 #[iv p1, iv p2, iv p3, iv p4, iv 9, .unset, .unset] [])
    obtain ⟨T194, h194, X194, e194, E194, A194, D194, -, st194⟩ := newO X0 hx hZ hown (own_w hw 1 rfl) (own_w hw 2 rfl) (own_w hw 3 rfl) e0 (g := (mkF m 9 #[iv p1, iv p2, iv p3, iv p4, iv 9, .unset, .unset] [])) rfl (hb hby at_9) (by decide) (by decide)
    obtain ⟨b194, g194⟩ : ∃ z, z = h0.size := ⟨_, rfl⟩
    rw [← g194] at A194 D194 st194
    have g_b194 : n0 ≤ b194 := Nat.le_trans Z0 (Nat.le_of_eq g194.symm)
    have Z195 := Nat.le_trans Z0 E194.1
    have F_values_b194 : Fld Z h194 b194 "com/example/kalchas/kalchas/IntList" "values" "[I" .null := D194 (Or.inl (own_w hw 12 rfl)) (ty := (.array .int)) (by decide)
    have F_size_b194 : Fld Z h194 b194 "com/example/kalchas/kalchas/IntList" "size" "I" (.int (0 : Int32)) := D194 (Or.inl (own_w hw 19 rfl)) (ty := .int) (by decide)
    refine own_st st194 ?_
    show own_E p e below _ T194 (mkF m 12 #[iv p1, iv p2, iv p3, iv p4, iv 9, .unset, .unset] [.ref b194])
    refine own_st (fun t k => XS.dup X194.here hx rfl (hb hby at_12) rfl rfl k) ?_
    show own_E p e below _ T194 (mkF m 13 #[iv p1, iv p2, iv p3, iv p4, iv 9, .unset, .unset] [.ref b194, .ref b194])
    obtain ⟨_, _, ⟨T196, L196, k196, n196⟩, -, X196, ⟨Lc196, hQ196, l196, y196, z196⟩, st196⟩ := X194.specialBack hx (y := own_y2) rfl hown (mvT hZ (own_w hw 4 rfl)) (mvT hZ (own_w hw 5 rfl)) (mvT hZ (own_w hw 6 rfl)) (by decide) (backOf (W := 1) (own_init l Z a0 hw [] b194 h194 n0 Z195 A194 F_values_b194 F_size_b194 g_b194) hZ (own_w hw 6 rfl) (own_w hw 3 rfl) (by decide) (by decide)) (g := (mkF m 13 #[iv p1, iv p2, iv p3, iv p4, iv 9, .unset, .unset] [.ref b194, .ref b194])) rfl (by rw [hml]; rfl) (Steps.refl _) (a := b194) (argsL := []) (rest := [(.ref b194)]) (lenOf own_pd_1 rfl) rfl (by show 2 * 0 + _ ≤ _; exact Nat.le_of_eq rfl) (hb hby at_13) (fun _ _ => ⟨rfl, e194, (by decide : 1 + 1 ≤ _), (by decide : 2 + 16 ≤ _)⟩)
    dsimp only [Pt.U, Pt.locs, Pt.cells, Pt.slots] at X196 l196 y196 z196 st196 hQ196
    subst l196 y196 z196
    obtain ⟨b196_o0, k196_o1, rfl, Nq196, Kq196, sz196_0, P196_0, P196_1, P196_2, P196_3⟩ := hQ196
    have N196 := Fr.app (Fr.nil n0) Nq196
    have ne_b194_b196_o0 : b194 ≠ b196_o0 := Nat.ne_of_lt (Nat.lt_of_lt_of_le A194.lt sz196_0)
    have g_b196_o0 : n0 ≤ b196_o0 := Nat.le_trans Z195 sz196_0
    have e196 : T196.heap = T196.heap := rfl
    have Z197 := Nat.le_trans Z195 Kq196.1
    refine own_tr st196 ?_
    show own_E p e below _ T196 (mkF m 16 #[iv p1, iv p2, iv p3, iv p4, iv 9, .unset, .unset] [.ref b194])
    refine own_st (fun t k => XS.astore X196.here hx rfl (hb hby at_16) rfl rfl (l' := #[iv p1, iv p2, iv p3, iv p4, iv 9, rv b194, .unset]) rfl k) ?_
    show own_E p e below _ T196 (mkF m 18 #[iv p1, iv p2, iv p3, iv p4, iv 9, rv b194, .unset] [])
    refine own_st (fun t k => XS.aload X196.here hx rfl (hb hby at_18) rfl rfl k) ?_
    show own_E p e below _ T196 (mkF m 20 #[iv p1, iv p2, iv p3, iv p4, iv 9, rv b194, .unset] [.ref b194])
    refine own_st (fun t k => XS.iload X196.here hx rfl (hb hby at_20) rfl k) ?_
    show own_E p e below _ T196 (mkF m 22 #[iv p1, iv p2, iv p3, iv p4, iv 9, rv b194, .unset] [.int 9, .ref b194])
    obtain ⟨cq198, kq198, q198a, q198b, q198c⟩ := isOf hZ e196 P196_0
    obtain ⟨_, _, ⟨T198, L198, k198, n198⟩, -, X198, ⟨Lc198, hQ198, l198, y198, z198⟩, st198⟩ := X196.virtualBack hx (y := own_y3) (z := own_y3) hown (mvT hZ (own_w hw 13 rfl)) (mvT hZ (own_w hw 14 rfl)) (notFace_of_selects (args := #[]) (mvT hZ (own_w hw 16 rfl))) (mvT hZ (own_w hw 16 rfl)) (mvT hZ (own_w hw 15 rfl)) (by decide) (backOf (W := 0) (own_trunc l Z a0 hw [] b194 b196_o0 (9 : Int32) (0 : Int32) T196.heap n0 Z197 P196_0 P196_1 P196_2 g_b194) hZ (own_w hw 17 rfl) (own_w hw 3 rfl) (by decide) (by decide)) q198a q198c (g := (mkF m 22 #[iv p1, iv p2, iv p3, iv p4, iv 9, rv b194, .unset] [.int 9, .ref b194])) rfl (by rw [hml]; rfl) (Steps.refl _) (argsL := [(.int (9 : Int32))]) (rest := []) (lenOf own_pd_3 rfl) rfl (by show 2 * 0 + _ ≤ _; exact Nat.le_of_eq rfl) (hb hby at_22) (fun _ _ => ⟨rfl, e196, (by decide : 2 + 0 ≤ _), (by decide : 18 + 0 ≤ _)⟩)
    dsimp only [Pt.U, Pt.locs, Pt.cells, Pt.slots] at X198 l198 y198 z198 st198 hQ198
    subst l198 y198 z198
    obtain ⟨rfl, Nq198, Kq198, P198_0, P198_1, P198_2⟩ := hQ198
    have N198 := Fr.app N196 Nq198
    have e198 : T198.heap = T198.heap := rfl
    have Z199 := Nat.le_trans Z197 Kq198.1
    refine own_tr st198 ?_
    show own_E p e below _ T198 (mkF m 25 #[iv p1, iv p2, iv p3, iv p4, iv 9, rv b194, .unset] [])
    refine own_st (fun t k => XS.iload X198.here hx rfl (hb hby at_25) rfl k) ?_
    show own_E p e below _ T198 (mkF m 27 #[iv p1, iv p2, iv p3, iv p4, iv 9, rv b194, .unset] [.int 9])
    refine own_st (fun t k => XS.ifNo X198.here hx rfl (hb hby at_27) rfl (by decide) k) ?_
    show own_E p e below _ T198 (mkF m 30 #[iv p1, iv p2, iv p3, iv p4, iv 9, rv b194, .unset] [])
    refine own_st (fun t k => XS.aload X198.here hx rfl (hb hby at_30) rfl rfl k) ?_
    show own_E p e below _ T198 (mkF m 32 #[iv p1, iv p2, iv p3, iv p4, iv 9, rv b194, .unset] [.ref b194])
    refine own_st (fun t k => XS.iload X198.here hx rfl (hb hby at_32) rfl k) ?_
    show own_E p e below _ T198 (mkF m 34 #[iv p1, iv p2, iv p3, iv p4, iv 9, rv b194, .unset] [.int 9, .ref b194])
    refine own_st (fun t k => XS.iconst X198.here hx rfl (hb hby at_34) k) ?_
    show own_E p e below _ T198 (mkF m 35 #[iv p1, iv p2, iv p3, iv p4, iv 9, rv b194, .unset] [.int 1, .int 9, .ref b194])
    refine own_st (fun t k => XS.isub X198.here hx rfl (hb hby at_35) rfl k) ?_
    show own_E p e below _ T198 (mkF m 36 #[iv p1, iv p2, iv p3, iv p4, iv 9, rv b194, .unset] [.int 8, .ref b194])
    refine own_st (fun t k => XS.iloadN X198.here hx rfl (hb hby at_36) rfl k) ?_
    show own_E p e below _ T198 (mkF m 37 #[iv p1, iv p2, iv p3, iv p4, iv 9, rv b194, .unset] [.int p3, .int 8, .ref b194])
    have B200 := (P196_3.keep Kq198 (ninS (Ne.symm ne_b194_b196_o0) nin0))
    obtain ⟨cq201, kq201, q201a, q201b, q201c⟩ := isOf hZ e198 P198_0
    obtain ⟨_, _, ⟨T201, L201, k201, n201⟩, -, X201, ⟨Lc201, hQ201, l201, y201, z201⟩, st201⟩ := X198.virtualBack hx (y := own_y4) (z := own_y4) hown (mvT hZ (own_w hw 20 rfl)) (mvT hZ (own_w hw 21 rfl)) (notFace_of_selects (args := #[]) (mvT hZ (own_w hw 23 rfl))) (mvT hZ (own_w hw 23 rfl)) (mvT hZ (own_w hw 22 rfl)) (by decide) (backOf (W := 0) (own_set8 l Z a0 hw [] b194 b196_o0 k196_o1 p3 (0 : Int32) (0 : Int32) (0 : Int32) (0 : Int32) (0 : Int32) (0 : Int32) (0 : Int32) (0 : Int32) (0 : Int32) (0 : Int32) (0 : Int32) (0 : Int32) (0 : Int32) (0 : Int32) (0 : Int32) (0 : Int32) T198.heap n0 Z199 P198_1 B200 ne_b194_b196_o0 g_b196_o0) hZ (own_w hw 24 rfl) (own_w hw 3 rfl) (by decide) (by decide)) q201a q201c (g := (mkF m 37 #[iv p1, iv p2, iv p3, iv p4, iv 9, rv b194, .unset] [.int p3, .int 8, .ref b194])) rfl (by rw [hml]; rfl) (Steps.refl _) (argsL := [(.int (8 : Int32)), (.int p3)]) (rest := []) (lenOf own_pd_5 rfl) rfl (by show 2 * 0 + _ ≤ _; exact Nat.le_of_eq rfl) (hb hby at_37) (fun _ _ => ⟨rfl, e198, (by decide : 2 + 0 ≤ _), (by decide : 18 + 0 ≤ _)⟩)
    dsimp only [Pt.U, Pt.locs, Pt.cells, Pt.slots] at X201 l201 y201 z201 st201 hQ201
    subst l201 y201 z201
    obtain ⟨rfl, Nq201, Kq201, P201_0⟩ := hQ201
    have N201 := Fr.app N198 Nq201
    have e201 : T201.heap = T201.heap := rfl
    have Z202 := Nat.le_trans Z199 Kq201.1
    refine own_tr st201 ?_
    show own_E p e below _ T201 (mkF m 40 #[iv p1, iv p2, iv p3, iv p4, iv 9, rv b194, .unset] [])
    refine own_st (fun t k => XS.aload X201.here hx rfl (hb hby at_40) rfl rfl k) ?_
    show own_E p e below _ T201 (mkF m 42 #[iv p1, iv p2, iv p3, iv p4, iv 9, rv b194, .unset] [.ref b194])
    refine own_st (fun t k => XS.iloadN X201.here hx rfl (hb hby at_42) rfl k) ?_
    show own_E p e below _ T201 (mkF m 43 #[iv p1, iv p2, iv p3, iv p4, iv 9, rv b194, .unset] [.int p1, .ref b194])
    have B203 := (P198_0.keep Kq201)
    have B204 := (P198_1.keep Kq201 (ninS ne_b194_b196_o0 nin0))
    have B205 := (P198_2.keep Kq201 (ninS ne_b194_b196_o0 nin0))
    obtain ⟨cq206, kq206, q206a, q206b, q206c⟩ := isOf hZ e201 B203
    obtain ⟨_, _, ⟨T206, L206, k206, n206⟩, -, X206, ⟨Lc206, hQ206, l206, y206, z206⟩, st206⟩ := X201.virtualBack hx (y := own_y5) (z := own_y5) hown (mvT hZ (own_w hw 25 rfl)) (mvT hZ (own_w hw 26 rfl)) (notFace_of_selects (args := #[]) (mvT hZ (own_w hw 28 rfl))) (mvT hZ (own_w hw 28 rfl)) (mvT hZ (own_w hw 27 rfl)) (by decide) (backOf (W := 0) (own_add9 l Z a0 hw [] b194 b196_o0 k196_o1 p1 (0 : Int32) (0 : Int32) (0 : Int32) (0 : Int32) (0 : Int32) (0 : Int32) (0 : Int32) (0 : Int32) p3 (0 : Int32) (0 : Int32) (0 : Int32) (0 : Int32) (0 : Int32) (0 : Int32) (0 : Int32) T201.heap n0 Z202 B203 B204 B205 P201_0 ne_b194_b196_o0 g_b194 g_b196_o0) hZ (own_w hw 29 rfl) (own_w hw 3 rfl) (by decide) (by decide)) q206a q206c (g := (mkF m 43 #[iv p1, iv p2, iv p3, iv p4, iv 9, rv b194, .unset] [.int p1, .ref b194])) rfl (by rw [hml]; rfl) (Steps.refl _) (argsL := [(.int p1)]) (rest := []) (lenOf own_pd_3 rfl) rfl (by show 2 * 0 + _ ≤ _; exact Nat.le_of_eq rfl) (hb hby at_43) (fun _ _ => ⟨rfl, e201, (by decide : 2 + 0 ≤ _), (by decide : 18 + 0 ≤ _)⟩)
    dsimp only [Pt.U, Pt.locs, Pt.cells, Pt.slots] at X206 l206 y206 z206 st206 hQ206
    subst l206 y206 z206
    obtain ⟨rfl, Nq206, Kq206, P206_0, P206_1, P206_2, P206_3⟩ := hQ206
    have N206 := Fr.app N201 Nq206
    have e206 : T206.heap = T206.heap := rfl
    have Z207 := Nat.le_trans Z202 Kq206.1
    refine own_tr st206 ?_
    show own_E p e below _ T206 (mkF m 46 #[iv p1, iv p2, iv p3, iv p4, iv 9, rv b194, .unset] [])
    refine own_st (fun t k => XS.aload X206.here hx rfl (hb hby at_46) rfl rfl k) ?_
    show own_E p e below _ T206 (mkF m 48 #[iv p1, iv p2, iv p3, iv p4, iv 9, rv b194, .unset] [.ref b194])
    obtain ⟨cq208, kq208, q208a, q208b, q208c⟩ := isOf hZ e206 P206_0
    obtain ⟨_, _, ⟨T208, L208, k208, n208⟩, -, X208, ⟨Lc208, hQ208, l208, y208, z208⟩, st208⟩ := X206.virtualBack hx (y := own_y7) (z := own_y7) hown (mvT hZ (own_w hw 30 rfl)) (mvT hZ (own_w hw 31 rfl)) (notFace_of_selects (args := #[]) (mvT hZ (own_w hw 33 rfl))) (mvT hZ (own_w hw 33 rfl)) (mvT hZ (own_w hw 32 rfl)) (by decide) (backOf (W := 0) (own_size l Z a0 hw [] b194 (10 : Int32) T206.heap n0 Z207 P206_2) hZ (own_w hw 34 rfl) (own_w hw 3 rfl) (by decide) (by decide)) q208a q208c (g := (mkF m 48 #[iv p1, iv p2, iv p3, iv p4, iv 9, rv b194, .unset] [.ref b194])) rfl (by rw [hml]; rfl) (Steps.refl _) (argsL := []) (rest := []) (lenOf own_pd_0 rfl) rfl (by show 2 * 0 + _ ≤ _; exact Nat.le_of_eq rfl) (hb hby at_48) (fun _ _ => ⟨rfl, e206, (by decide : 2 + 0 ≤ _), (by decide : 18 + 0 ≤ _)⟩)
    dsimp only [Pt.U, Pt.locs, Pt.cells, Pt.slots] at X208 l208 y208 z208 st208 hQ208
    subst l208 y208 z208
    obtain ⟨hR208, e208, rfl⟩ := hQ208
    have N208 := Fr.app N206 (Fr.nil n0)
    obtain rfl := hR208
    refine own_tr st208 ?_
    show own_E p e below _ T208 (mkF m 51 #[iv p1, iv p2, iv p3, iv p4, iv 9, rv b194, .unset] [.int 10])
    refine own_st (fun t k => XS.iload X208.here hx rfl (hb hby at_51) rfl k) ?_
    show own_E p e below _ T208 (mkF m 53 #[iv p1, iv p2, iv p3, iv p4, iv 9, rv b194, .unset] [.int 9, .int 10])
    refine own_st (fun t k => XS.iconst X208.here hx rfl (hb hby at_53) k) ?_
    show own_E p e below _ T208 (mkF m 54 #[iv p1, iv p2, iv p3, iv p4, iv 9, rv b194, .unset] [.int 1, .int 9, .int 10])
    refine own_st (fun t k => XS.iadd X208.here hx rfl (hb hby at_54) rfl k) ?_
    show own_E p e below _ T208 (mkF m 55 #[iv p1, iv p2, iv p3, iv p4, iv 9, rv b194, .unset] [.int 10, .int 10])
    refine own_st (fun t k => XS.icmpNo X208.here hx rfl (hb hby at_55) rfl (by decide) k) ?_
    show own_E p e below _ T208 (mkF m 58 #[iv p1, iv p2, iv p3, iv p4, iv 9, rv b194, .unset] [])
    refine own_st (fun t k => XS.aload X208.here hx rfl (hb hby at_58) rfl rfl k) ?_
    show own_E p e below _ T208 (mkF m 60 #[iv p1, iv p2, iv p3, iv p4, iv 9, rv b194, .unset] [.ref b194])
    refine own_st (fun t k => XS.iload X208.here hx rfl (hb hby at_60) rfl k) ?_
    show own_E p e below _ T208 (mkF m 62 #[iv p1, iv p2, iv p3, iv p4, iv 9, rv b194, .unset] [.int 9, .ref b194])
    obtain ⟨cq209, kq209, q209a, q209b, q209c⟩ := isOf hZ e208 P206_0
    obtain ⟨_, _, ⟨T209, L209, k209, n209⟩, -, X209, ⟨Lc209, hQ209, l209, y209, z209⟩, st209⟩ := X208.virtualBack hx (y := own_y6) (z := own_y6) hown (mvT hZ (own_w hw 35 rfl)) (mvT hZ (own_w hw 36 rfl)) (notFace_of_selects (args := #[]) (mvT hZ (own_w hw 38 rfl))) (mvT hZ (own_w hw 38 rfl)) (mvT hZ (own_w hw 37 rfl)) (by decide) (backOf (W := 0) (own_get16_9 l Z a0 hw [] b194 b196_o0 k196_o1 (0 : Int32) (0 : Int32) (0 : Int32) (0 : Int32) (0 : Int32) (0 : Int32) (0 : Int32) (0 : Int32) p3 p1 (0 : Int32) (0 : Int32) (0 : Int32) (0 : Int32) (0 : Int32) (0 : Int32) T206.heap n0 Z207 P206_1 P206_3) hZ (own_w hw 39 rfl) (own_w hw 3 rfl) (by decide) (by decide)) q209a q209c (g := (mkF m 62 #[iv p1, iv p2, iv p3, iv p4, iv 9, rv b194, .unset] [.int 9, .ref b194])) rfl (by rw [hml]; rfl) (Steps.refl _) (argsL := [(.int (9 : Int32))]) (rest := []) (lenOf own_pd_2 rfl) rfl (by show 2 * 0 + _ ≤ _; exact Nat.le_of_eq rfl) (hb hby at_62) (fun _ _ => ⟨rfl, e208, (by decide : 2 + 0 ≤ _), (by decide : 18 + 0 ≤ _)⟩)
    dsimp only [Pt.U, Pt.locs, Pt.cells, Pt.slots] at X209 l209 y209 z209 st209 hQ209
    subst l209 y209 z209
    obtain ⟨hR209, e209, rfl⟩ := hQ209
    have N209 := Fr.app N208 (Fr.nil n0)
    obtain rfl := hR209
    refine own_tr st209 ?_
    show own_E p e below _ T209 (mkF m 65 #[iv p1, iv p2, iv p3, iv p4, iv 9, rv b194, .unset] [.int p1])
    refine own_st (fun t k => XS.iloadN X209.here hx rfl (hb hby at_65) rfl k) ?_
    show own_E p e below _ T209 (mkF m 66 #[iv p1, iv p2, iv p3, iv p4, iv 9, rv b194, .unset] [.int p1, .int p1])
    refine own_st (fun t k => XS.icmpNo X209.here hx rfl (hb hby at_66) rfl (teq rfl).2 k) ?_
    show own_E p e below _ T209 (mkF m 69 #[iv p1, iv p2, iv p3, iv p4, iv 9, rv b194, .unset] [])
    refine own_st (fun t k => XS.iconst X209.here hx rfl (hb hby at_69) k) ?_
    show own_E p e below _ T209 (mkF m 70 #[iv p1, iv p2, iv p3, iv p4, iv 9, rv b194, .unset] [.int 1])
    refine own_st (fun t k => XS.goto X209.here hx rfl (pc0 := 70) (pc' := 74) rfl (hb hby at_70) (by decide) (by decide) k) ?_
    show own_E p e below _ T209 (mkF m 74 #[iv p1, iv p2, iv p3, iv p4, iv 9, rv b194, .unset] [.int 1])
    refine own_st (fun t k => XS.istore X209.here hx rfl (hb hby at_74) rfl (l' := #[iv p1, iv p2, iv p3, iv p4, iv 9, rv b194, iv 1]) rfl k) ?_
    show own_E p e below _ T209 (mkF m 76 #[iv p1, iv p2, iv p3, iv p4, iv 9, rv b194, iv 1] [])
    refine own_st (fun t k => XS.aload X209.here hx rfl (hb hby at_76) rfl rfl k) ?_
    show own_E p e below _ T209 (mkF m 78 #[iv p1, iv p2, iv p3, iv p4, iv 9, rv b194, iv 1] [.ref b194])
    refine own_st (fun t k => XS.iloadN X209.here hx rfl (hb hby at_78) rfl k) ?_
    show own_E p e below _ T209 (mkF m 79 #[iv p1, iv p2, iv p3, iv p4, iv 9, rv b194, iv 1] [.int p2, .ref b194])
    obtain ⟨cq210, kq210, q210a, q210b, q210c⟩ := isOf hZ e209 P206_0
    obtain ⟨_, _, ⟨T210, L210, k210, n210⟩, -, X210, ⟨Lc210, hQ210, l210, y210, z210⟩, st210⟩ := X209.virtualBack hx (y := own_y5) (z := own_y5) hown (mvT hZ (own_w hw 25 rfl)) (mvT hZ (own_w hw 26 rfl)) (notFace_of_selects (args := #[]) (mvT hZ (own_w hw 28 rfl))) (mvT hZ (own_w hw 28 rfl)) (mvT hZ (own_w hw 27 rfl)) (by decide) (backOf (W := 0) (own_add10 l Z a0 hw [] b194 b196_o0 k196_o1 p2 (0 : Int32) (0 : Int32) (0 : Int32) (0 : Int32) (0 : Int32) (0 : Int32) (0 : Int32) (0 : Int32) p3 p1 (0 : Int32) (0 : Int32) (0 : Int32) (0 : Int32) (0 : Int32) (0 : Int32) T206.heap n0 Z207 P206_0 P206_1 P206_2 P206_3 ne_b194_b196_o0 g_b194 g_b196_o0) hZ (own_w hw 29 rfl) (own_w hw 3 rfl) (by decide) (by decide)) q210a q210c (g := (mkF m 79 #[iv p1, iv p2, iv p3, iv p4, iv 9, rv b194, iv 1] [.int p2, .ref b194])) rfl (by rw [hml]; rfl) (Steps.refl _) (argsL := [(.int p2)]) (rest := []) (lenOf own_pd_3 rfl) rfl (by show 2 * 0 + _ ≤ _; exact Nat.le_of_eq rfl) (hb hby at_79) (fun _ _ => ⟨rfl, e209, (by decide : 2 + 0 ≤ _), (by decide : 18 + 0 ≤ _)⟩)
    dsimp only [Pt.U, Pt.locs, Pt.cells, Pt.slots] at X210 l210 y210 z210 st210 hQ210
    subst l210 y210 z210
    obtain ⟨rfl, Nq210, Kq210, P210_0, P210_1, P210_2, P210_3⟩ := hQ210
    have N210 := Fr.app N209 Nq210
    have e210 : T210.heap = T210.heap := rfl
    have Z211 := Nat.le_trans Z207 Kq210.1
    refine own_tr st210 ?_
    show own_E p e below _ T210 (mkF m 82 #[iv p1, iv p2, iv p3, iv p4, iv 9, rv b194, iv 1] [])
    refine own_st (fun t k => XS.iload X210.here hx rfl (hb hby at_82) rfl k) ?_
    show own_E p e below _ T210 (mkF m 84 #[iv p1, iv p2, iv p3, iv p4, iv 9, rv b194, iv 1] [.int 1])
    refine own_st (fun t k => XS.ifNo X210.here hx rfl (hb hby at_84) rfl (by decide) k) ?_
    show own_E p e below _ T210 (mkF m 87 #[iv p1, iv p2, iv p3, iv p4, iv 9, rv b194, iv 1] [])
    refine own_st (fun t k => XS.aload X210.here hx rfl (hb hby at_87) rfl rfl k) ?_
    show own_E p e below _ T210 (mkF m 89 #[iv p1, iv p2, iv p3, iv p4, iv 9, rv b194, iv 1] [.ref b194])
    obtain ⟨cq212, kq212, q212a, q212b, q212c⟩ := isOf hZ e210 P210_0
    obtain ⟨_, _, ⟨T212, L212, k212, n212⟩, -, X212, ⟨Lc212, hQ212, l212, y212, z212⟩, st212⟩ := X210.virtualBack hx (y := own_y7) (z := own_y7) hown (mvT hZ (own_w hw 30 rfl)) (mvT hZ (own_w hw 31 rfl)) (notFace_of_selects (args := #[]) (mvT hZ (own_w hw 33 rfl))) (mvT hZ (own_w hw 33 rfl)) (mvT hZ (own_w hw 32 rfl)) (by decide) (backOf (W := 0) (own_size l Z a0 hw [] b194 (11 : Int32) T210.heap n0 Z211 P210_2) hZ (own_w hw 34 rfl) (own_w hw 3 rfl) (by decide) (by decide)) q212a q212c (g := (mkF m 89 #[iv p1, iv p2, iv p3, iv p4, iv 9, rv b194, iv 1] [.ref b194])) rfl (by rw [hml]; rfl) (Steps.refl _) (argsL := []) (rest := []) (lenOf own_pd_0 rfl) rfl (by show 2 * 0 + _ ≤ _; exact Nat.le_of_eq rfl) (hb hby at_89) (fun _ _ => ⟨rfl, e210, (by decide : 2 + 0 ≤ _), (by decide : 18 + 0 ≤ _)⟩)
    dsimp only [Pt.U, Pt.locs, Pt.cells, Pt.slots] at X212 l212 y212 z212 st212 hQ212
    subst l212 y212 z212
    obtain ⟨hR212, e212, rfl⟩ := hQ212
    have N212 := Fr.app N210 (Fr.nil n0)
    obtain rfl := hR212
    refine own_tr st212 ?_
    show own_E p e below _ T212 (mkF m 92 #[iv p1, iv p2, iv p3, iv p4, iv 9, rv b194, iv 1] [.int 11])
    refine own_st (fun t k => XS.iload X212.here hx rfl (hb hby at_92) rfl k) ?_
    show own_E p e below _ T212 (mkF m 94 #[iv p1, iv p2, iv p3, iv p4, iv 9, rv b194, iv 1] [.int 9, .int 11])
    refine own_st (fun t k => XS.iconst X212.here hx rfl (hb hby at_94) k) ?_
    show own_E p e below _ T212 (mkF m 95 #[iv p1, iv p2, iv p3, iv p4, iv 9, rv b194, iv 1] [.int 2, .int 9, .int 11])
    refine own_st (fun t k => XS.iadd X212.here hx rfl (hb hby at_95) rfl k) ?_
    show own_E p e below _ T212 (mkF m 96 #[iv p1, iv p2, iv p3, iv p4, iv 9, rv b194, iv 1] [.int 11, .int 11])
    refine own_st (fun t k => XS.icmpNo X212.here hx rfl (hb hby at_96) rfl (by decide) k) ?_
    show own_E p e below _ T212 (mkF m 99 #[iv p1, iv p2, iv p3, iv p4, iv 9, rv b194, iv 1] [])
    refine own_st (fun t k => XS.aload X212.here hx rfl (hb hby at_99) rfl rfl k) ?_
    show own_E p e below _ T212 (mkF m 101 #[iv p1, iv p2, iv p3, iv p4, iv 9, rv b194, iv 1] [.ref b194])
    refine own_st (fun t k => XS.iload X212.here hx rfl (hb hby at_101) rfl k) ?_
    show own_E p e below _ T212 (mkF m 103 #[iv p1, iv p2, iv p3, iv p4, iv 9, rv b194, iv 1] [.int 9, .ref b194])
    obtain ⟨cq213, kq213, q213a, q213b, q213c⟩ := isOf hZ e212 P210_0
    obtain ⟨_, _, ⟨T213, L213, k213, n213⟩, -, X213, ⟨Lc213, hQ213, l213, y213, z213⟩, st213⟩ := X212.virtualBack hx (y := own_y6) (z := own_y6) hown (mvT hZ (own_w hw 35 rfl)) (mvT hZ (own_w hw 36 rfl)) (notFace_of_selects (args := #[]) (mvT hZ (own_w hw 38 rfl))) (mvT hZ (own_w hw 38 rfl)) (mvT hZ (own_w hw 37 rfl)) (by decide) (backOf (W := 0) (own_get16_9 l Z a0 hw [] b194 b196_o0 k196_o1 (0 : Int32) (0 : Int32) (0 : Int32) (0 : Int32) (0 : Int32) (0 : Int32) (0 : Int32) (0 : Int32) p3 p1 p2 (0 : Int32) (0 : Int32) (0 : Int32) (0 : Int32) (0 : Int32) T210.heap n0 Z211 P210_1 P210_3) hZ (own_w hw 39 rfl) (own_w hw 3 rfl) (by decide) (by decide)) q213a q213c (g := (mkF m 103 #[iv p1, iv p2, iv p3, iv p4, iv 9, rv b194, iv 1] [.int 9, .ref b194])) rfl (by rw [hml]; rfl) (Steps.refl _) (argsL := [(.int (9 : Int32))]) (rest := []) (lenOf own_pd_2 rfl) rfl (by show 2 * 0 + _ ≤ _; exact Nat.le_of_eq rfl) (hb hby at_103) (fun _ _ => ⟨rfl, e212, (by decide : 2 + 0 ≤ _), (by decide : 18 + 0 ≤ _)⟩)
    dsimp only [Pt.U, Pt.locs, Pt.cells, Pt.slots] at X213 l213 y213 z213 st213 hQ213
    subst l213 y213 z213
    obtain ⟨hR213, e213, rfl⟩ := hQ213
    have N213 := Fr.app N212 (Fr.nil n0)
    obtain rfl := hR213
    refine own_tr st213 ?_
    show own_E p e below _ T213 (mkF m 106 #[iv p1, iv p2, iv p3, iv p4, iv 9, rv b194, iv 1] [.int p1])
    refine own_st (fun t k => XS.iloadN X213.here hx rfl (hb hby at_106) rfl k) ?_
    show own_E p e below _ T213 (mkF m 107 #[iv p1, iv p2, iv p3, iv p4, iv 9, rv b194, iv 1] [.int p1, .int p1])
    refine own_st (fun t k => XS.icmpNo X213.here hx rfl (hb hby at_107) rfl (teq rfl).2 k) ?_
    show own_E p e below _ T213 (mkF m 110 #[iv p1, iv p2, iv p3, iv p4, iv 9, rv b194, iv 1] [])
    refine own_st (fun t k => XS.aload X213.here hx rfl (hb hby at_110) rfl rfl k) ?_
    show own_E p e below _ T213 (mkF m 112 #[iv p1, iv p2, iv p3, iv p4, iv 9, rv b194, iv 1] [.ref b194])
    refine own_st (fun t k => XS.iload X213.here hx rfl (hb hby at_112) rfl k) ?_
    show own_E p e below _ T213 (mkF m 114 #[iv p1, iv p2, iv p3, iv p4, iv 9, rv b194, iv 1] [.int 9, .ref b194])
    refine own_st (fun t k => XS.iconst X213.here hx rfl (hb hby at_114) k) ?_
    show own_E p e below _ T213 (mkF m 115 #[iv p1, iv p2, iv p3, iv p4, iv 9, rv b194, iv 1] [.int 1, .int 9, .ref b194])
    refine own_st (fun t k => XS.iadd X213.here hx rfl (hb hby at_115) rfl k) ?_
    show own_E p e below _ T213 (mkF m 116 #[iv p1, iv p2, iv p3, iv p4, iv 9, rv b194, iv 1] [.int 10, .ref b194])
    obtain ⟨cq214, kq214, q214a, q214b, q214c⟩ := isOf hZ e213 P210_0
    obtain ⟨_, _, ⟨T214, L214, k214, n214⟩, -, X214, ⟨Lc214, hQ214, l214, y214, z214⟩, st214⟩ := X213.virtualBack hx (y := own_y6) (z := own_y6) hown (mvT hZ (own_w hw 35 rfl)) (mvT hZ (own_w hw 36 rfl)) (notFace_of_selects (args := #[]) (mvT hZ (own_w hw 38 rfl))) (mvT hZ (own_w hw 38 rfl)) (mvT hZ (own_w hw 37 rfl)) (by decide) (backOf (W := 0) (own_get16_10 l Z a0 hw [] b194 b196_o0 k196_o1 (0 : Int32) (0 : Int32) (0 : Int32) (0 : Int32) (0 : Int32) (0 : Int32) (0 : Int32) (0 : Int32) p3 p1 p2 (0 : Int32) (0 : Int32) (0 : Int32) (0 : Int32) (0 : Int32) T210.heap n0 Z211 P210_1 P210_3) hZ (own_w hw 39 rfl) (own_w hw 3 rfl) (by decide) (by decide)) q214a q214c (g := (mkF m 116 #[iv p1, iv p2, iv p3, iv p4, iv 9, rv b194, iv 1] [.int 10, .ref b194])) rfl (by rw [hml]; rfl) (Steps.refl _) (argsL := [(.int (10 : Int32))]) (rest := []) (lenOf own_pd_2 rfl) rfl (by show 2 * 0 + _ ≤ _; exact Nat.le_of_eq rfl) (hb hby at_116) (fun _ _ => ⟨rfl, e213, (by decide : 2 + 0 ≤ _), (by decide : 18 + 0 ≤ _)⟩)
    dsimp only [Pt.U, Pt.locs, Pt.cells, Pt.slots] at X214 l214 y214 z214 st214 hQ214
    subst l214 y214 z214
    obtain ⟨hR214, e214, rfl⟩ := hQ214
    have N214 := Fr.app N213 (Fr.nil n0)
    obtain rfl := hR214
    refine own_tr st214 ?_
    show own_E p e below _ T214 (mkF m 119 #[iv p1, iv p2, iv p3, iv p4, iv 9, rv b194, iv 1] [.int p2])
    refine own_st (fun t k => XS.iloadN X214.here hx rfl (hb hby at_119) rfl k) ?_
    show own_E p e below _ T214 (mkF m 120 #[iv p1, iv p2, iv p3, iv p4, iv 9, rv b194, iv 1] [.int p2, .int p2])
    refine own_st (fun t k => XS.icmpNo X214.here hx rfl (hb hby at_120) rfl (teq rfl).2 k) ?_
    show own_E p e below _ T214 (mkF m 123 #[iv p1, iv p2, iv p3, iv p4, iv 9, rv b194, iv 1] [])
    refine own_st (fun t k => XS.iconst X214.here hx rfl (hb hby at_123) k) ?_
    show own_E p e below _ T214 (mkF m 124 #[iv p1, iv p2, iv p3, iv p4, iv 9, rv b194, iv 1] [.int 1])
    refine own_st (fun t k => XS.goto X214.here hx rfl (pc0 := 124) (pc' := 128) rfl (hb hby at_124) (by decide) (by decide) k) ?_
    show own_E p e below _ T214 (mkF m 128 #[iv p1, iv p2, iv p3, iv p4, iv 9, rv b194, iv 1] [.int 1])
    refine own_st (fun t k => XS.istore X214.here hx rfl (hb hby at_128) rfl (l' := #[iv p1, iv p2, iv p3, iv p4, iv 9, rv b194, iv 1]) rfl k) ?_
    show own_E p e below _ T214 (mkF m 130 #[iv p1, iv p2, iv p3, iv p4, iv 9, rv b194, iv 1] [])
    refine own_st (fun t k => XS.iload X214.here hx rfl (hb hby at_130) rfl k) ?_
    show own_E p e below _ T214 (mkF m 132 #[iv p1, iv p2, iv p3, iv p4, iv 9, rv b194, iv 1] [.int 9])
    refine own_st (fun t k => XS.ifNo X214.here hx rfl (hb hby at_132) rfl (by decide) k) ?_
    show own_E p e below _ T214 (mkF m 135 #[iv p1, iv p2, iv p3, iv p4, iv 9, rv b194, iv 1] [])
    refine own_st (fun t k => XS.iload X214.here hx rfl (hb hby at_135) rfl k) ?_
    show own_E p e below _ T214 (mkF m 137 #[iv p1, iv p2, iv p3, iv p4, iv 9, rv b194, iv 1] [.int 1])
    refine own_st (fun t k => XS.ifNo X214.here hx rfl (hb hby at_137) rfl (by decide) k) ?_
    show own_E p e below _ T214 (mkF m 140 #[iv p1, iv p2, iv p3, iv p4, iv 9, rv b194, iv 1] [])
    refine own_st (fun t k => XS.aload X214.here hx rfl (hb hby at_140) rfl rfl k) ?_
    show own_E p e below _ T214 (mkF m 142 #[iv p1, iv p2, iv p3, iv p4, iv 9, rv b194, iv 1] [.ref b194])
    refine own_st (fun t k => XS.iload X214.here hx rfl (hb hby at_142) rfl k) ?_
    show own_E p e below _ T214 (mkF m 144 #[iv p1, iv p2, iv p3, iv p4, iv 9, rv b194, iv 1] [.int 9, .ref b194])
    refine own_st (fun t k => XS.iconst X214.here hx rfl (hb hby at_144) k) ?_
    show own_E p e below _ T214 (mkF m 145 #[iv p1, iv p2, iv p3, iv p4, iv 9, rv b194, iv 1] [.int 1, .int 9, .ref b194])
    refine own_st (fun t k => XS.isub X214.here hx rfl (hb hby at_145) rfl k) ?_
    show own_E p e below _ T214 (mkF m 146 #[iv p1, iv p2, iv p3, iv p4, iv 9, rv b194, iv 1] [.int 8, .ref b194])
    obtain ⟨cq215, kq215, q215a, q215b, q215c⟩ := isOf hZ e214 P210_0
    obtain ⟨_, _, ⟨T215, L215, k215, n215⟩, -, X215, ⟨Lc215, hQ215, l215, y215, z215⟩, st215⟩ := X214.virtualBack hx (y := own_y6) (z := own_y6) hown (mvT hZ (own_w hw 35 rfl)) (mvT hZ (own_w hw 36 rfl)) (notFace_of_selects (args := #[]) (mvT hZ (own_w hw 38 rfl))) (mvT hZ (own_w hw 38 rfl)) (mvT hZ (own_w hw 37 rfl)) (by decide) (backOf (W := 0) (own_get16_8 l Z a0 hw [] b194 b196_o0 k196_o1 (0 : Int32) (0 : Int32) (0 : Int32) (0 : Int32) (0 : Int32) (0 : Int32) (0 : Int32) (0 : Int32) p3 p1 p2 (0 : Int32) (0 : Int32) (0 : Int32) (0 : Int32) (0 : Int32) T210.heap n0 Z211 P210_1 P210_3) hZ (own_w hw 39 rfl) (own_w hw 3 rfl) (by decide) (by decide)) q215a q215c (g := (mkF m 146 #[iv p1, iv p2, iv p3, iv p4, iv 9, rv b194, iv 1] [.int 8, .ref b194])) rfl (by rw [hml]; rfl) (Steps.refl _) (argsL := [(.int (8 : Int32))]) (rest := []) (lenOf own_pd_2 rfl) rfl (by show 2 * 0 + _ ≤ _; exact Nat.le_of_eq rfl) (hb hby at_146) (fun _ _ => ⟨rfl, e214, (by decide : 2 + 0 ≤ _), (by decide : 18 + 0 ≤ _)⟩)
    dsimp only [Pt.U, Pt.locs, Pt.cells, Pt.slots] at X215 l215 y215 z215 st215 hQ215
    subst l215 y215 z215
    obtain ⟨hR215, e215, rfl⟩ := hQ215
    have N215 := Fr.app N214 (Fr.nil n0)
    obtain rfl := hR215
    refine own_tr st215 ?_
    show own_E p e below _ T215 (mkF m 149 #[iv p1, iv p2, iv p3, iv p4, iv 9, rv b194, iv 1] [.int p3])
    refine own_st (fun t k => XS.iloadN X215.here hx rfl (hb hby at_149) rfl k) ?_
    show own_E p e below _ T215 (mkF m 150 #[iv p1, iv p2, iv p3, iv p4, iv 9, rv b194, iv 1] [.int p3, .int p3])
    refine own_st (fun t k => XS.icmpNo X215.here hx rfl (hb hby at_150) rfl (teq rfl).2 k) ?_
    show own_E p e below _ T215 (mkF m 153 #[iv p1, iv p2, iv p3, iv p4, iv 9, rv b194, iv 1] [])
    refine own_st (fun t k => XS.iconst X215.here hx rfl (hb hby at_153) k) ?_
    show own_E p e below _ T215 (mkF m 154 #[iv p1, iv p2, iv p3, iv p4, iv 9, rv b194, iv 1] [.int 1])
    refine own_st (fun t k => XS.goto X215.here hx rfl (pc0 := 154) (pc' := 158) rfl (hb hby at_154) (by decide) (by decide) k) ?_
    show own_E p e below _ T215 (mkF m 158 #[iv p1, iv p2, iv p3, iv p4, iv 9, rv b194, iv 1] [.int 1])
    refine own_st (fun t k => XS.istore X215.here hx rfl (hb hby at_158) rfl (l' := #[iv p1, iv p2, iv p3, iv p4, iv 9, rv b194, iv 1]) rfl k) ?_
    show own_E p e below _ T215 (mkF m 160 #[iv p1, iv p2, iv p3, iv p4, iv 9, rv b194, iv 1] [])
    refine own_st (fun t k => XS.iload X215.here hx rfl (hb hby at_160) rfl k) ?_
    show own_E p e below _ T215 (mkF m 162 #[iv p1, iv p2, iv p3, iv p4, iv 9, rv b194, iv 1] [.int 1])
    refine own_retS X215 hx Bd.notSynchronized Bd.returns rfl (by decide) (hb hby at_162) (by decide) (by decide) ?_
    exact ⟨rfl, N215⟩
  · rw [hs1]
    show own_E p e below _ s₁ (mkF m 9 #[iv p1, iv p2, iv p3, iv p4, iv 10, .unset, .unset] [])
    obtain ⟨T216, h216, X216, e216, E216, A216, D216, -, st216⟩ := newO X0 hx hZ hown (own_w hw 1 rfl) (own_w hw 2 rfl) (own_w hw 3 rfl) e0 (g := (mkF m 9 #[iv p1, iv p2, iv p3, iv p4, iv 10, .unset, .unset] [])) rfl (hb hby at_9) (by decide) (by decide)
    obtain ⟨b216, g216⟩ : ∃ z, z = h0.size := ⟨_, rfl⟩
    rw [← g216] at A216 D216 st216
    have g_b216 : n0 ≤ b216 := Nat.le_trans Z0 (Nat.le_of_eq g216.symm)
    have Z217 := Nat.le_trans Z0 E216.1
    have F_values_b216 : Fld Z h216 b216 "com/example/kalchas/kalchas/IntList" "values" "[I" .null := D216 (Or.inl (own_w hw 12 rfl)) (ty := (.array .int)) (by decide)
    have F_size_b216 : Fld Z h216 b216 "com/example/kalchas/kalchas/IntList" "size" "I" (.int (0 : Int32)) := D216 (Or.inl (own_w hw 19 rfl)) (ty := .int) (by decide)
    refine own_st st216 ?_
    show own_E p e below _ T216 (mkF m 12 #[iv p1, iv p2, iv p3, iv p4, iv 10, .unset, .unset] [.ref b216])
    refine own_st (fun t k => XS.dup X216.here hx rfl (hb hby at_12) rfl rfl k) ?_
    show own_E p e below _ T216 (mkF m 13 #[iv p1, iv p2, iv p3, iv p4, iv 10, .unset, .unset] [.ref b216, .ref b216])
    obtain ⟨_, _, ⟨T218, L218, k218, n218⟩, -, X218, ⟨Lc218, hQ218, l218, y218, z218⟩, st218⟩ := X216.specialBack hx (y := own_y2) rfl hown (mvT hZ (own_w hw 4 rfl)) (mvT hZ (own_w hw 5 rfl)) (mvT hZ (own_w hw 6 rfl)) (by decide) (backOf (W := 1) (own_init l Z a0 hw [] b216 h216 n0 Z217 A216 F_values_b216 F_size_b216 g_b216) hZ (own_w hw 6 rfl) (own_w hw 3 rfl) (by decide) (by decide)) (g := (mkF m 13 #[iv p1, iv p2, iv p3, iv p4, iv 10, .unset, .unset] [.ref b216, .ref b216])) rfl (by rw [hml]; rfl) (Steps.refl _) (a := b216) (argsL := []) (rest := [(.ref b216)]) (lenOf own_pd_1 rfl) rfl (by show 2 * 0 + _ ≤ _; exact Nat.le_of_eq rfl) (hb hby at_13) (fun _ _ => ⟨rfl, e216, (by decide : 1 + 1 ≤ _), (by decide : 2 + 16 ≤ _)⟩)
    dsimp only [Pt.U, Pt.locs, Pt.cells, Pt.slots] at X218 l218 y218 z218 st218 hQ218
    subst l218 y218 z218
    obtain ⟨b218_o0, k218_o1, rfl, Nq218, Kq218, sz218_0, P218_0, P218_1, P218_2, P218_3⟩ := hQ218
    have N218 := Fr.app (Fr.nil n0) Nq218
    have ne_b216_b218_o0 : b216 ≠ b218_o0 := Nat.ne_of_lt (Nat.lt_of_lt_of_le A216.lt sz218_0)
    have g_b218_o0 : n0 ≤ b218_o0 := Nat.le_trans Z217 sz218_0
    have e218 : T218.heap = T218.heap := rfl
    have Z219 := Nat.le_trans Z217 Kq218.1
    refine own_tr st218 ?_
    show own_E p e below _ T218 (mkF m 16 #[iv p1, iv p2, iv p3, iv p4, iv 10, .unset, .unset] [.ref b216])
    refine own_st (fun t k => XS.astore X218.here hx rfl (hb hby at_16) rfl rfl (l' := #[iv p1, iv p2, iv p3, iv p4, iv 10, rv b216, .unset]) rfl k) ?_
    show own_E p e below _ T218 (mkF m 18 #[iv p1, iv p2, iv p3, iv p4, iv 10, rv b216, .unset] [])
    refine own_st (fun t k => XS.aload X218.here hx rfl (hb hby at_18) rfl rfl k) ?_
    show own_E p e below _ T218 (mkF m 20 #[iv p1, iv p2, iv p3, iv p4, iv 10, rv b216, .unset] [.ref b216])
    refine own_st (fun t k => XS.iload X218.here hx rfl (hb hby at_20) rfl k) ?_
    show own_E p e below _ T218 (mkF m 22 #[iv p1, iv p2, iv p3, iv p4, iv 10, rv b216, .unset] [.int 10, .ref b216])
    obtain ⟨cq220, kq220, q220a, q220b, q220c⟩ := isOf hZ e218 P218_0
    obtain ⟨_, _, ⟨T220, L220, k220, n220⟩, -, X220, ⟨Lc220, hQ220, l220, y220, z220⟩, st220⟩ := X218.virtualBack hx (y := own_y3) (z := own_y3) hown (mvT hZ (own_w hw 13 rfl)) (mvT hZ (own_w hw 14 rfl)) (notFace_of_selects (args := #[]) (mvT hZ (own_w hw 16 rfl))) (mvT hZ (own_w hw 16 rfl)) (mvT hZ (own_w hw 15 rfl)) (by decide) (backOf (W := 0) (own_trunc l Z a0 hw [] b216 b218_o0 (10 : Int32) (0 : Int32) T218.heap n0 Z219 P218_0 P218_1 P218_2 g_b216) hZ (own_w hw 17 rfl) (own_w hw 3 rfl) (by decide) (by decide)) q220a q220c (g := (mkF m 22 #[iv p1, iv p2, iv p3, iv p4, iv 10, rv b216, .unset] [.int 10, .ref b216])) rfl (by rw [hml]; rfl) (Steps.refl _) (argsL := [(.int (10 : Int32))]) (rest := []) (lenOf own_pd_3 rfl) rfl (by show 2 * 0 + _ ≤ _; exact Nat.le_of_eq rfl) (hb hby at_22) (fun _ _ => ⟨rfl, e218, (by decide : 2 + 0 ≤ _), (by decide : 18 + 0 ≤ _)⟩)
    dsimp only [Pt.U, Pt.locs, Pt.cells, Pt.slots] at X220 l220 y220 z220 st220 hQ220
    subst l220 y220 z220
    obtain ⟨rfl, Nq220, Kq220, P220_0, P220_1, P220_2⟩ := hQ220
    have N220 := Fr.app N218 Nq220
    have e220 : T220.heap = T220.heap := rfl
    have Z221 := Nat.le_trans Z219 Kq220.1
    refine own_tr st220 ?_
    show own_E p e below _ T220 (mkF m 25 #[iv p1, iv p2, iv p3, iv p4, iv 10, rv b216, .unset] [])
    refine own_st (fun t k => XS.iload X220.here hx rfl (hb hby at_25) rfl k) ?_
    show own_E p e below _ T220 (mkF m 27 #[iv p1, iv p2, iv p3, iv p4, iv 10, rv b216, .unset] [.int 10])
    refine own_st (fun t k => XS.ifNo X220.here hx rfl (hb hby at_27) rfl (by decide) k) ?_
    show own_E p e below _ T220 (mkF m 30 #[iv p1, iv p2, iv p3, iv p4, iv 10, rv b216, .unset] [])
    refine own_st (fun t k => XS.aload X220.here hx rfl (hb hby at_30) rfl rfl k) ?_
    show own_E p e below _ T220 (mkF m 32 #[iv p1, iv p2, iv p3, iv p4, iv 10, rv b216, .unset] [.ref b216])
    refine own_st (fun t k => XS.iload X220.here hx rfl (hb hby at_32) rfl k) ?_
    show own_E p e below _ T220 (mkF m 34 #[iv p1, iv p2, iv p3, iv p4, iv 10, rv b216, .unset] [.int 10, .ref b216])
    refine own_st (fun t k => XS.iconst X220.here hx rfl (hb hby at_34) k) ?_
    show own_E p e below _ T220 (mkF m 35 #[iv p1, iv p2, iv p3, iv p4, iv 10, rv b216, .unset] [.int 1, .int 10, .ref b216])
    refine own_st (fun t k => XS.isub X220.here hx rfl (hb hby at_35) rfl k) ?_
    show own_E p e below _ T220 (mkF m 36 #[iv p1, iv p2, iv p3, iv p4, iv 10, rv b216, .unset] [.int 9, .ref b216])
    refine own_st (fun t k => XS.iloadN X220.here hx rfl (hb hby at_36) rfl k) ?_
    show own_E p e below _ T220 (mkF m 37 #[iv p1, iv p2, iv p3, iv p4, iv 10, rv b216, .unset] [.int p3, .int 9, .ref b216])
    have B222 := (P218_3.keep Kq220 (ninS (Ne.symm ne_b216_b218_o0) nin0))
    obtain ⟨cq223, kq223, q223a, q223b, q223c⟩ := isOf hZ e220 P220_0
    obtain ⟨_, _, ⟨T223, L223, k223, n223⟩, -, X223, ⟨Lc223, hQ223, l223, y223, z223⟩, st223⟩ := X220.virtualBack hx (y := own_y4) (z := own_y4) hown (mvT hZ (own_w hw 20 rfl)) (mvT hZ (own_w hw 21 rfl)) (notFace_of_selects (args := #[]) (mvT hZ (own_w hw 23 rfl))) (mvT hZ (own_w hw 23 rfl)) (mvT hZ (own_w hw 22 rfl)) (by decide) (backOf (W := 0) (own_set9 l Z a0 hw [] b216 b218_o0 k218_o1 p3 (0 : Int32) (0 : Int32) (0 : Int32) (0 : Int32) (0 : Int32) (0 : Int32) (0 : Int32) (0 : Int32) (0 : Int32) (0 : Int32) (0 : Int32) (0 : Int32) (0 : Int32) (0 : Int32) (0 : Int32) (0 : Int32) T220.heap n0 Z221 P220_1 B222 ne_b216_b218_o0 g_b218_o0) hZ (own_w hw 24 rfl) (own_w hw 3 rfl) (by decide) (by decide)) q223a q223c (g := (mkF m 37 #[iv p1, iv p2, iv p3, iv p4, iv 10, rv b216, .unset] [.int p3, .int 9, .ref b216])) rfl (by rw [hml]; rfl) (Steps.refl _) (argsL := [(.int (9 : Int32)), (.int p3)]) (rest := []) (lenOf own_pd_5 rfl) rfl (by show 2 * 0 + _ ≤ _; exact Nat.le_of_eq rfl) (hb hby at_37) (fun _ _ => ⟨rfl, e220, (by decide : 2 + 0 ≤ _), (by decide : 18 + 0 ≤ _)⟩)
    dsimp only [Pt.U, Pt.locs, Pt.cells, Pt.slots] at X223 l223 y223 z223 st223 hQ223
    subst l223 y223 z223
    obtain ⟨rfl, Nq223, Kq223, P223_0⟩ := hQ223
    have N223 := Fr.app N220 Nq223
    have e223 : T223.heap = T223.heap := rfl
    have Z224 := Nat.le_trans Z221 Kq223.1
    refine own_tr st223 ?_
    show own_E p e below _ T223 (mkF m 40 #[iv p1, iv p2, iv p3, iv p4, iv 10, rv b216, .unset] [])
    refine own_st (fun t k => XS.aload X223.here hx rfl (hb hby at_40) rfl rfl k) ?_
    show own_E p e below _ T223 (mkF m 42 #[iv p1, iv p2, iv p3, iv p4, iv 10, rv b216, .unset] [.ref b216])
    refine own_st (fun t k => XS.iloadN X223.here hx rfl (hb hby at_42) rfl k) ?_
    show own_E p e below _ T223 (mkF m 43 #[iv p1, iv p2, iv p3, iv p4, iv 10, rv b216, .unset] [.int p1, .ref b216])
    have B225 := (P220_0.keep Kq223)
    have B226 := (P220_1.keep Kq223 (ninS ne_b216_b218_o0 nin0))
    have B227 := (P220_2.keep Kq223 (ninS ne_b216_b218_o0 nin0))
    obtain ⟨cq228, kq228, q228a, q228b, q228c⟩ := isOf hZ e223 B225
    obtain ⟨_, _, ⟨T228, L228, k228, n228⟩, -, X228, ⟨Lc228, hQ228, l228, y228, z228⟩, st228⟩ := X223.virtualBack hx (y := own_y5) (z := own_y5) hown (mvT hZ (own_w hw 25 rfl)) (mvT hZ (own_w hw 26 rfl)) (notFace_of_selects (args := #[]) (mvT hZ (own_w hw 28 rfl))) (mvT hZ (own_w hw 28 rfl)) (mvT hZ (own_w hw 27 rfl)) (by decide) (backOf (W := 0) (own_add10 l Z a0 hw [] b216 b218_o0 k218_o1 p1 (0 : Int32) (0 : Int32) (0 : Int32) (0 : Int32) (0 : Int32) (0 : Int32) (0 : Int32) (0 : Int32) (0 : Int32) p3 (0 : Int32) (0 : Int32) (0 : Int32) (0 : Int32) (0 : Int32) (0 : Int32) T223.heap n0 Z224 B225 B226 B227 P223_0 ne_b216_b218_o0 g_b216 g_b218_o0) hZ (own_w hw 29 rfl) (own_w hw 3 rfl) (by decide) (by decide)) q228a q228c (g := (mkF m 43 #[iv p1, iv p2, iv p3, iv p4, iv 10, rv b216, .unset] [.int p1, .ref b216])) rfl (by rw [hml]; rfl) (Steps.refl _) (argsL := [(.int p1)]) (rest := []) (lenOf own_pd_3 rfl) rfl (by show 2 * 0 + _ ≤ _; exact Nat.le_of_eq rfl) (hb hby at_43) (fun _ _ => ⟨rfl, e223, (by decide : 2 + 0 ≤ _), (by decide : 18 + 0 ≤ _)⟩)
    dsimp only [Pt.U, Pt.locs, Pt.cells, Pt.slots] at X228 l228 y228 z228 st228 hQ228
    subst l228 y228 z228
    obtain ⟨rfl, Nq228, Kq228, P228_0, P228_1, P228_2, P228_3⟩ := hQ228
    have N228 := Fr.app N223 Nq228
    have e228 : T228.heap = T228.heap := rfl
    have Z229 := Nat.le_trans Z224 Kq228.1
    refine own_tr st228 ?_
    show own_E p e below _ T228 (mkF m 46 #[iv p1, iv p2, iv p3, iv p4, iv 10, rv b216, .unset] [])
    refine own_st (fun t k => XS.aload X228.here hx rfl (hb hby at_46) rfl rfl k) ?_
    show own_E p e below _ T228 (mkF m 48 #[iv p1, iv p2, iv p3, iv p4, iv 10, rv b216, .unset] [.ref b216])
    obtain ⟨cq230, kq230, q230a, q230b, q230c⟩ := isOf hZ e228 P228_0
    obtain ⟨_, _, ⟨T230, L230, k230, n230⟩, -, X230, ⟨Lc230, hQ230, l230, y230, z230⟩, st230⟩ := X228.virtualBack hx (y := own_y7) (z := own_y7) hown (mvT hZ (own_w hw 30 rfl)) (mvT hZ (own_w hw 31 rfl)) (notFace_of_selects (args := #[]) (mvT hZ (own_w hw 33 rfl))) (mvT hZ (own_w hw 33 rfl)) (mvT hZ (own_w hw 32 rfl)) (by decide) (backOf (W := 0) (own_size l Z a0 hw [] b216 (11 : Int32) T228.heap n0 Z229 P228_2) hZ (own_w hw 34 rfl) (own_w hw 3 rfl) (by decide) (by decide)) q230a q230c (g := (mkF m 48 #[iv p1, iv p2, iv p3, iv p4, iv 10, rv b216, .unset] [.ref b216])) rfl (by rw [hml]; rfl) (Steps.refl _) (argsL := []) (rest := []) (lenOf own_pd_0 rfl) rfl (by show 2 * 0 + _ ≤ _; exact Nat.le_of_eq rfl) (hb hby at_48) (fun _ _ => ⟨rfl, e228, (by decide : 2 + 0 ≤ _), (by decide : 18 + 0 ≤ _)⟩)
    dsimp only [Pt.U, Pt.locs, Pt.cells, Pt.slots] at X230 l230 y230 z230 st230 hQ230
    subst l230 y230 z230
    obtain ⟨hR230, e230, rfl⟩ := hQ230
    have N230 := Fr.app N228 (Fr.nil n0)
    obtain rfl := hR230
    refine own_tr st230 ?_
    show own_E p e below _ T230 (mkF m 51 #[iv p1, iv p2, iv p3, iv p4, iv 10, rv b216, .unset] [.int 11])
    refine own_st (fun t k => XS.iload X230.here hx rfl (hb hby at_51) rfl k) ?_
    show own_E p e below _ T230 (mkF m 53 #[iv p1, iv p2, iv p3, iv p4, iv 10, rv b216, .unset] [.int 10, .int 11])
    refine own_st (fun t k => XS.iconst X230.here hx rfl (hb hby at_53) k) ?_
    show own_E p e below _ T230 (mkF m 54 #[iv p1, iv p2, iv p3, iv p4, iv 10, rv b216, .unset] [.int 1, .int 10, .int 11])
    refine own_st (fun t k => XS.iadd X230.here hx rfl (hb hby at_54) rfl k) ?_
    show own_E p e below _ T230 (mkF m 55 #[iv p1, iv p2, iv p3, iv p4, iv 10, rv b216, .unset] [.int 11, .int 11])
    refine own_st (fun t k => XS.icmpNo X230.here hx rfl (hb hby at_55) rfl (by decide) k) ?_
    show own_E p e below _ T230 (mkF m 58 #[iv p1, iv p2, iv p3, iv p4, iv 10, rv b216, .unset] [])
    refine own_st (fun t k => XS.aload X230.here hx rfl (hb hby at_58) rfl rfl k) ?_
    show own_E p e below _ T230 (mkF m 60 #[iv p1, iv p2, iv p3, iv p4, iv 10, rv b216, .unset] [.ref b216])
    refine own_st (fun t k => XS.iload X230.here hx rfl (hb hby at_60) rfl k) ?_
    show own_E p e below _ T230 (mkF m 62 #[iv p1, iv p2, iv p3, iv p4, iv 10, rv b216, .unset] [.int 10, .ref b216])
    obtain ⟨cq231, kq231, q231a, q231b, q231c⟩ := isOf hZ e230 P228_0
    obtain ⟨_, _, ⟨T231, L231, k231, n231⟩, -, X231, ⟨Lc231, hQ231, l231, y231, z231⟩, st231⟩ := X230.virtualBack hx (y := own_y6) (z := own_y6) hown (mvT hZ (own_w hw 35 rfl)) (mvT hZ (own_w hw 36 rfl)) (notFace_of_selects (args := #[]) (mvT hZ (own_w hw 38 rfl))) (mvT hZ (own_w hw 38 rfl)) (mvT hZ (own_w hw 37 rfl)) (by decide) (backOf (W := 0) (own_get16_10 l Z a0 hw [] b216 b218_o0 k218_o1 (0 : Int32) (0 : Int32) (0 : Int32) (0 : Int32) (0 : Int32) (0 : Int32) (0 : Int32) (0 : Int32) (0 : Int32) p3 p1 (0 : Int32) (0 : Int32) (0 : Int32) (0 : Int32) (0 : Int32) T228.heap n0 Z229 P228_1 P228_3) hZ (own_w hw 39 rfl) (own_w hw 3 rfl) (by decide) (by decide)) q231a q231c (g := (mkF m 62 #[iv p1, iv p2, iv p3, iv p4, iv 10, rv b216, .unset] [.int 10, .ref b216])) rfl (by rw [hml]; rfl) (Steps.refl _) (argsL := [(.int (10 : Int32))]) (rest := []) (lenOf own_pd_2 rfl) rfl (by show 2 * 0 + _ ≤ _; exact Nat.le_of_eq rfl) (hb hby at_62) (fun _ _ => ⟨rfl, e230, (by decide : 2 + 0 ≤ _), (by decide : 18 + 0 ≤ _)⟩)
    dsimp only [Pt.U, Pt.locs, Pt.cells, Pt.slots] at X231 l231 y231 z231 st231 hQ231
    subst l231 y231 z231
    obtain ⟨hR231, e231, rfl⟩ := hQ231
    have N231 := Fr.app N230 (Fr.nil n0)
    obtain rfl := hR231
    refine own_tr st231 ?_
    show own_E p e below _ T231 (mkF m 65 #[iv p1, iv p2, iv p3, iv p4, iv 10, rv b216, .unset] [.int p1])
    refine own_st (fun t k => XS.iloadN X231.here hx rfl (hb hby at_65) rfl k) ?_
    show own_E p e below _ T231 (mkF m 66 #[iv p1, iv p2, iv p3, iv p4, iv 10, rv b216, .unset] [.int p1, .int p1])
    refine own_st (fun t k => XS.icmpNo X231.here hx rfl (hb hby at_66) rfl (teq rfl).2 k) ?_
    show own_E p e below _ T231 (mkF m 69 #[iv p1, iv p2, iv p3, iv p4, iv 10, rv b216, .unset] [])
    refine own_st (fun t k => XS.iconst X231.here hx rfl (hb hby at_69) k) ?_
    show own_E p e below _ T231 (mkF m 70 #[iv p1, iv p2, iv p3, iv p4, iv 10, rv b216, .unset] [.int 1])
    refine own_st (fun t k => XS.goto X231.here hx rfl (pc0 := 70) (pc' := 74) rfl (hb hby at_70) (by decide) (by decide) k) ?_
    show own_E p e below _ T231 (mkF m 74 #[iv p1, iv p2, iv p3, iv p4, iv 10, rv b216, .unset] [.int 1])
    refine own_st (fun t k => XS.istore X231.here hx rfl (hb hby at_74) rfl (l' := #[iv p1, iv p2, iv p3, iv p4, iv 10, rv b216, iv 1]) rfl k) ?_
    show own_E p e below _ T231 (mkF m 76 #[iv p1, iv p2, iv p3, iv p4, iv 10, rv b216, iv 1] [])
    refine own_st (fun t k => XS.aload X231.here hx rfl (hb hby at_76) rfl rfl k) ?_
    show own_E p e below _ T231 (mkF m 78 #[iv p1, iv p2, iv p3, iv p4, iv 10, rv b216, iv 1] [.ref b216])
    refine own_st (fun t k => XS.iloadN X231.here hx rfl (hb hby at_78) rfl k) ?_
    show own_E p e below _ T231 (mkF m 79 #[iv p1, iv p2, iv p3, iv p4, iv 10, rv b216, iv 1] [.int p2, .ref b216])
    obtain ⟨cq232, kq232, q232a, q232b, q232c⟩ := isOf hZ e231 P228_0
    obtain ⟨_, _, ⟨T232, L232, k232, n232⟩, -, X232, ⟨Lc232, hQ232, l232, y232, z232⟩, st232⟩ := X231.virtualBack hx (y := own_y5) (z := own_y5) hown (mvT hZ (own_w hw 25 rfl)) (mvT hZ (own_w hw 26 rfl)) (notFace_of_selects (args := #[]) (mvT hZ (own_w hw 28 rfl))) (mvT hZ (own_w hw 28 rfl)) (mvT hZ (own_w hw 27 rfl)) (by decide) (backOf (W := 0) (own_add11 l Z a0 hw [] b216 b218_o0 k218_o1 p2 (0 : Int32) (0 : Int32) (0 : Int32) (0 : Int32) (0 : Int32) (0 : Int32) (0 : Int32) (0 : Int32) (0 : Int32) p3 p1 (0 : Int32) (0 : Int32) (0 : Int32) (0 : Int32) (0 : Int32) T228.heap n0 Z229 P228_0 P228_1 P228_2 P228_3 ne_b216_b218_o0 g_b216 g_b218_o0) hZ (own_w hw 29 rfl) (own_w hw 3 rfl) (by decide) (by decide)) q232a q232c (g := (mkF m 79 #[iv p1, iv p2, iv p3, iv p4, iv 10, rv b216, iv 1] [.int p2, .ref b216])) rfl (by rw [hml]; rfl) (Steps.refl _) (argsL := [(.int p2)]) (rest := []) (lenOf own_pd_3 rfl) rfl (by show 2 * 0 + _ ≤ _; exact Nat.le_of_eq rfl) (hb hby at_79) (fun _ _ => ⟨rfl, e231, (by decide : 2 + 0 ≤ _), (by decide : 18 + 0 ≤ _)⟩)
    dsimp only [Pt.U, Pt.locs, Pt.cells, Pt.slots] at X232 l232 y232 z232 st232 hQ232
    subst l232 y232 z232
    obtain ⟨rfl, Nq232, Kq232, P232_0, P232_1, P232_2, P232_3⟩ := hQ232
    have N232 := Fr.app N231 Nq232
    have e232 : T232.heap = T232.heap := rfl
    have Z233 := Nat.le_trans Z229 Kq232.1
    refine own_tr st232 ?_
    show own_E p e below _ T232 (mkF m 82 #[iv p1, iv p2, iv p3, iv p4, iv 10, rv b216, iv 1] [])
    refine own_st (fun t k => XS.iload X232.here hx rfl (hb hby at_82) rfl k) ?_
    show own_E p e below _ T232 (mkF m 84 #[iv p1, iv p2, iv p3, iv p4, iv 10, rv b216, iv 1] [.int 1])
    refine own_st (fun t k => XS.ifNo X232.here hx rfl (hb hby at_84) rfl (by decide) k) ?_
    show own_E p e below _ T232 (mkF m 87 #[iv p1, iv p2, iv p3, iv p4, iv 10, rv b216, iv 1] [])
    refine own_st (fun t k => XS.aload X232.here hx rfl (hb hby at_87) rfl rfl k) ?_
    show own_E p e below _ T232 (mkF m 89 #[iv p1, iv p2, iv p3, iv p4, iv 10, rv b216, iv 1] [.ref b216])
    obtain ⟨cq234, kq234, q234a, q234b, q234c⟩ := isOf hZ e232 P232_0
    obtain ⟨_, _, ⟨T234, L234, k234, n234⟩, -, X234, ⟨Lc234, hQ234, l234, y234, z234⟩, st234⟩ := X232.virtualBack hx (y := own_y7) (z := own_y7) hown (mvT hZ (own_w hw 30 rfl)) (mvT hZ (own_w hw 31 rfl)) (notFace_of_selects (args := #[]) (mvT hZ (own_w hw 33 rfl))) (mvT hZ (own_w hw 33 rfl)) (mvT hZ (own_w hw 32 rfl)) (by decide) (backOf (W := 0) (own_size l Z a0 hw [] b216 (12 : Int32) T232.heap n0 Z233 P232_2) hZ (own_w hw 34 rfl) (own_w hw 3 rfl) (by decide) (by decide)) q234a q234c (g := (mkF m 89 #[iv p1, iv p2, iv p3, iv p4, iv 10, rv b216, iv 1] [.ref b216])) rfl (by rw [hml]; rfl) (Steps.refl _) (argsL := []) (rest := []) (lenOf own_pd_0 rfl) rfl (by show 2 * 0 + _ ≤ _; exact Nat.le_of_eq rfl) (hb hby at_89) (fun _ _ => ⟨rfl, e232, (by decide : 2 + 0 ≤ _), (by decide : 18 + 0 ≤ _)⟩)
    dsimp only [Pt.U, Pt.locs, Pt.cells, Pt.slots] at X234 l234 y234 z234 st234 hQ234
    subst l234 y234 z234
    obtain ⟨hR234, e234, rfl⟩ := hQ234
    have N234 := Fr.app N232 (Fr.nil n0)
    obtain rfl := hR234
    refine own_tr st234 ?_
    show own_E p e below _ T234 (mkF m 92 #[iv p1, iv p2, iv p3, iv p4, iv 10, rv b216, iv 1] [.int 12])
    refine own_st (fun t k => XS.iload X234.here hx rfl (hb hby at_92) rfl k) ?_
    show own_E p e below _ T234 (mkF m 94 #[iv p1, iv p2, iv p3, iv p4, iv 10, rv b216, iv 1] [.int 10, .int 12])
    refine own_st (fun t k => XS.iconst X234.here hx rfl (hb hby at_94) k) ?_
    show own_E p e below _ T234 (mkF m 95 #[iv p1, iv p2, iv p3, iv p4, iv 10, rv b216, iv 1] [.int 2, .int 10, .int 12])
    refine own_st (fun t k => XS.iadd X234.here hx rfl (hb hby at_95) rfl k) ?_
    show own_E p e below _ T234 (mkF m 96 #[iv p1, iv p2, iv p3, iv p4, iv 10, rv b216, iv 1] [.int 12, .int 12])
    refine own_st (fun t k => XS.icmpNo X234.here hx rfl (hb hby at_96) rfl (by decide) k) ?_
    show own_E p e below _ T234 (mkF m 99 #[iv p1, iv p2, iv p3, iv p4, iv 10, rv b216, iv 1] [])
    refine own_st (fun t k => XS.aload X234.here hx rfl (hb hby at_99) rfl rfl k) ?_
    show own_E p e below _ T234 (mkF m 101 #[iv p1, iv p2, iv p3, iv p4, iv 10, rv b216, iv 1] [.ref b216])
    refine own_st (fun t k => XS.iload X234.here hx rfl (hb hby at_101) rfl k) ?_
    show own_E p e below _ T234 (mkF m 103 #[iv p1, iv p2, iv p3, iv p4, iv 10, rv b216, iv 1] [.int 10, .ref b216])
    obtain ⟨cq235, kq235, q235a, q235b, q235c⟩ := isOf hZ e234 P232_0
    obtain ⟨_, _, ⟨T235, L235, k235, n235⟩, -, X235, ⟨Lc235, hQ235, l235, y235, z235⟩, st235⟩ := X234.virtualBack hx (y := own_y6) (z := own_y6) hown (mvT hZ (own_w hw 35 rfl)) (mvT hZ (own_w hw 36 rfl)) (notFace_of_selects (args := #[]) (mvT hZ (own_w hw 38 rfl))) (mvT hZ (own_w hw 38 rfl)) (mvT hZ (own_w hw 37 rfl)) (by decide) (backOf (W := 0) (own_get16_10 l Z a0 hw [] b216 b218_o0 k218_o1 (0 : Int32) (0 : Int32) (0 : Int32) (0 : Int32) (0 : Int32) (0 : Int32) (0 : Int32) (0 : Int32) (0 : Int32) p3 p1 p2 (0 : Int32) (0 : Int32) (0 : Int32) (0 : Int32) T232.heap n0 Z233 P232_1 P232_3) hZ (own_w hw 39 rfl) (own_w hw 3 rfl) (by decide) (by decide)) q235a q235c (g := (mkF m 103 #[iv p1, iv p2, iv p3, iv p4, iv 10, rv b216, iv 1] [.int 10, .ref b216])) rfl (by rw [hml]; rfl) (Steps.refl _) (argsL := [(.int (10 : Int32))]) (rest := []) (lenOf own_pd_2 rfl) rfl (by show 2 * 0 + _ ≤ _; exact Nat.le_of_eq rfl) (hb hby at_103) (fun _ _ => ⟨rfl, e234, (by decide : 2 + 0 ≤ _), (by decide : 18 + 0 ≤ _)⟩)
    dsimp only [Pt.U, Pt.locs, Pt.cells, Pt.slots] at X235 l235 y235 z235 st235 hQ235
    subst l235 y235 z235
    obtain ⟨hR235, e235, rfl⟩ := hQ235
    have N235 := Fr.app N234 (Fr.nil n0)
    obtain rfl := hR235
    refine own_tr st235 ?_
    show own_E p e below _ T235 (mkF m 106 #[iv p1, iv p2, iv p3, iv p4, iv 10, rv b216, iv 1] [.int p1])
    refine own_st (fun t k => XS.iloadN X235.here hx rfl (hb hby at_106) rfl k) ?_
    show own_E p e below _ T235 (mkF m 107 #[iv p1, iv p2, iv p3, iv p4, iv 10, rv b216, iv 1] [.int p1, .int p1])
    refine own_st (fun t k => XS.icmpNo X235.here hx rfl (hb hby at_107) rfl (teq rfl).2 k) ?_
    show own_E p e below _ T235 (mkF m 110 #[iv p1, iv p2, iv p3, iv p4, iv 10, rv b216, iv 1] [])
    refine own_st (fun t k => XS.aload X235.here hx rfl (hb hby at_110) rfl rfl k) ?_
    show own_E p e below _ T235 (mkF m 112 #[iv p1, iv p2, iv p3, iv p4, iv 10, rv b216, iv 1] [.ref b216])
    refine own_st (fun t k => XS.iload X235.here hx rfl (hb hby at_112) rfl k) ?_
    show own_E p e below _ T235 (mkF m 114 #[iv p1, iv p2, iv p3, iv p4, iv 10, rv b216, iv 1] [.int 10, .ref b216])
    refine own_st (fun t k => XS.iconst X235.here hx rfl (hb hby at_114) k) ?_
    show own_E p e below _ T235 (mkF m 115 #[iv p1, iv p2, iv p3, iv p4, iv 10, rv b216, iv 1] [.int 1, .int 10, .ref b216])
    refine own_st (fun t k => XS.iadd X235.here hx rfl (hb hby at_115) rfl k) ?_
    show own_E p e below _ T235 (mkF m 116 #[iv p1, iv p2, iv p3, iv p4, iv 10, rv b216, iv 1] [.int 11, .ref b216])
    obtain ⟨cq236, kq236, q236a, q236b, q236c⟩ := isOf hZ e235 P232_0
    obtain ⟨_, _, ⟨T236, L236, k236, n236⟩, -, X236, ⟨Lc236, hQ236, l236, y236, z236⟩, st236⟩ := X235.virtualBack hx (y := own_y6) (z := own_y6) hown (mvT hZ (own_w hw 35 rfl)) (mvT hZ (own_w hw 36 rfl)) (notFace_of_selects (args := #[]) (mvT hZ (own_w hw 38 rfl))) (mvT hZ (own_w hw 38 rfl)) (mvT hZ (own_w hw 37 rfl)) (by decide) (backOf (W := 0) (own_get16_11 l Z a0 hw [] b216 b218_o0 k218_o1 (0 : Int32) (0 : Int32) (0 : Int32) (0 : Int32) (0 : Int32) (0 : Int32) (0 : Int32) (0 : Int32) (0 : Int32) p3 p1 p2 (0 : Int32) (0 : Int32) (0 : Int32) (0 : Int32) T232.heap n0 Z233 P232_1 P232_3) hZ (own_w hw 39 rfl) (own_w hw 3 rfl) (by decide) (by decide)) q236a q236c (g := (mkF m 116 #[iv p1, iv p2, iv p3, iv p4, iv 10, rv b216, iv 1] [.int 11, .ref b216])) rfl (by rw [hml]; rfl) (Steps.refl _) (argsL := [(.int (11 : Int32))]) (rest := []) (lenOf own_pd_2 rfl) rfl (by show 2 * 0 + _ ≤ _; exact Nat.le_of_eq rfl) (hb hby at_116) (fun _ _ => ⟨rfl, e235, (by decide : 2 + 0 ≤ _), (by decide : 18 + 0 ≤ _)⟩)
    dsimp only [Pt.U, Pt.locs, Pt.cells, Pt.slots] at X236 l236 y236 z236 st236 hQ236
    subst l236 y236 z236
    obtain ⟨hR236, e236, rfl⟩ := hQ236
    have N236 := Fr.app N235 (Fr.nil n0)
    obtain rfl := hR236
    refine own_tr st236 ?_
    show own_E p e below _ T236 (mkF m 119 #[iv p1, iv p2, iv p3, iv p4, iv 10, rv b216, iv 1] [.int p2])
    refine own_st (fun t k => XS.iloadN X236.here hx rfl (hb hby at_119) rfl k) ?_
    show own_E p e below _ T236 (mkF m 120 #[iv p1, iv p2, iv p3, iv p4, iv 10, rv b216, iv 1] [.int p2, .int p2])
    refine own_st (fun t k => XS.icmpNo X236.here hx rfl (hb hby at_120) rfl (teq rfl).2 k) ?_
    show own_E p e below _ T236 (mkF m 123 #[iv p1, iv p2, iv p3, iv p4, iv 10, rv b216, iv 1] [])
    refine own_st (fun t k => XS.iconst X236.here hx rfl (hb hby at_123) k) ?_
    show own_E p e below _ T236 (mkF m 124 #[iv p1, iv p2, iv p3, iv p4, iv 10, rv b216, iv 1] [.int 1])
    refine own_st (fun t k => XS.goto X236.here hx rfl (pc0 := 124) (pc' := 128) rfl (hb hby at_124) (by decide) (by decide) k) ?_
    show own_E p e below _ T236 (mkF m 128 #[iv p1, iv p2, iv p3, iv p4, iv 10, rv b216, iv 1] [.int 1])
    refine own_st (fun t k => XS.istore X236.here hx rfl (hb hby at_128) rfl (l' := #[iv p1, iv p2, iv p3, iv p4, iv 10, rv b216, iv 1]) rfl k) ?_
    show own_E p e below _ T236 (mkF m 130 #[iv p1, iv p2, iv p3, iv p4, iv 10, rv b216, iv 1] [])
    refine own_st (fun t k => XS.iload X236.here hx rfl (hb hby at_130) rfl k) ?_
    show own_E p e below _ T236 (mkF m 132 #[iv p1, iv p2, iv p3, iv p4, iv 10, rv b216, iv 1] [.int 10])
    refine own_st (fun t k => XS.ifNo X236.here hx rfl (hb hby at_132) rfl (by decide) k) ?_
    show own_E p e below _ T236 (mkF m 135 #[iv p1, iv p2, iv p3, iv p4, iv 10, rv b216, iv 1] [])
    refine own_st (fun t k => XS.iload X236.here hx rfl (hb hby at_135) rfl k) ?_
    show own_E p e below _ T236 (mkF m 137 #[iv p1, iv p2, iv p3, iv p4, iv 10, rv b216, iv 1] [.int 1])
    refine own_st (fun t k => XS.ifNo X236.here hx rfl (hb hby at_137) rfl (by decide) k) ?_
    show own_E p e below _ T236 (mkF m 140 #[iv p1, iv p2, iv p3, iv p4, iv 10, rv b216, iv 1] [])
    refine own_st (fun t k => XS.aload X236.here hx rfl (hb hby at_140) rfl rfl k) ?_
    show own_E p e below _ T236 (mkF m 142 #[iv p1, iv p2, iv p3, iv p4, iv 10, rv b216, iv 1] [.ref b216])
    refine own_st (fun t k => XS.iload X236.here hx rfl (hb hby at_142) rfl k) ?_
    show own_E p e below _ T236 (mkF m 144 #[iv p1, iv p2, iv p3, iv p4, iv 10, rv b216, iv 1] [.int 10, .ref b216])
    refine own_st (fun t k => XS.iconst X236.here hx rfl (hb hby at_144) k) ?_
    show own_E p e below _ T236 (mkF m 145 #[iv p1, iv p2, iv p3, iv p4, iv 10, rv b216, iv 1] [.int 1, .int 10, .ref b216])
    refine own_st (fun t k => XS.isub X236.here hx rfl (hb hby at_145) rfl k) ?_
    show own_E p e below _ T236 (mkF m 146 #[iv p1, iv p2, iv p3, iv p4, iv 10, rv b216, iv 1] [.int 9, .ref b216])
    obtain ⟨cq237, kq237, q237a, q237b, q237c⟩ := isOf hZ e236 P232_0
    obtain ⟨_, _, ⟨T237, L237, k237, n237⟩, -, X237, ⟨Lc237, hQ237, l237, y237, z237⟩, st237⟩ := X236.virtualBack hx (y := own_y6) (z := own_y6) hown (mvT hZ (own_w hw 35 rfl)) (mvT hZ (own_w hw 36 rfl)) (notFace_of_selects (args := #[]) (mvT hZ (own_w hw 38 rfl))) (mvT hZ (own_w hw 38 rfl)) (mvT hZ (own_w hw 37 rfl)) (by decide) (backOf (W := 0) (own_get16_9 l Z a0 hw [] b216 b218_o0 k218_o1 (0 : Int32) (0 : Int32) (0 : Int32) (0 : Int32) (0 : Int32) (0 : Int32) (0 : Int32) (0 : Int32) (0 : Int32) p3 p1 p2 (0 : Int32) (0 : Int32) (0 : Int32) (0 : Int32) T232.heap n0 Z233 P232_1 P232_3) hZ (own_w hw 39 rfl) (own_w hw 3 rfl) (by decide) (by decide)) q237a q237c (g := (mkF m 146 #[iv p1, iv p2, iv p3, iv p4, iv 10, rv b216, iv 1] [.int 9, .ref b216])) rfl (by rw [hml]; rfl) (Steps.refl _) (argsL := [(.int (9 : Int32))]) (rest := []) (lenOf own_pd_2 rfl) rfl (by show 2 * 0 + _ ≤ _; exact Nat.le_of_eq rfl) (hb hby at_146) (fun _ _ => ⟨rfl, e236, (by decide : 2 + 0 ≤ _), (by decide : 18 + 0 ≤ _)⟩)
    dsimp only [Pt.U, Pt.locs, Pt.cells, Pt.slots] at X237 l237 y237 z237 st237 hQ237
    subst l237 y237 z237
    obtain ⟨hR237, e237, rfl⟩ := hQ237
    have N237 := Fr.app N236 (Fr.nil n0)
    obtain rfl := hR237
    refine own_tr st237 ?_
    show own_E p e below _ T237 (mkF m 149 #[iv p1, iv p2, iv p3, iv p4, iv 10, rv b216, iv 1] [.int p3])
    refine own_st (fun t k => XS.iloadN X237.here hx rfl (hb hby at_149) rfl k) ?_
    show own_E p e below _ T237 (mkF m 150 #[iv p1, iv p2, iv p3, iv p4, iv 10, rv b216, iv 1] [.int p3, .int p3])
    refine own_st (fun t k => XS.icmpNo X237.here hx rfl (hb hby at_150) rfl (teq rfl).2 k) ?_
    show own_E p e below _ T237 (mkF m 153 #[iv p1, iv p2, iv p3, iv p4, iv 10, rv b216, iv 1] [])
    refine own_st (fun t k => XS.iconst X237.here hx rfl (hb hby at_153) k) ?_
    show own_E p e below _ T237 (mkF m 154 #[iv p1, iv p2, iv p3, iv p4, iv 10, rv b216, iv 1] [.int 1])
    refine own_st (fun t k => XS.goto X237.here hx rfl (pc0 := 154) (pc' := 158) rfl (hb hby at_154) (by decide) (by decide) k) ?_
    show own_E p e below _ T237 (mkF m 158 #[iv p1, iv p2, iv p3, iv p4, iv 10, rv b216, iv 1] [.int 1])
    refine own_st (fun t k => XS.istore X237.here hx rfl (hb hby at_158) rfl (l' := #[iv p1, iv p2, iv p3, iv p4, iv 10, rv b216, iv 1]) rfl k) ?_
    show own_E p e below _ T237 (mkF m 160 #[iv p1, iv p2, iv p3, iv p4, iv 10, rv b216, iv 1] [])
    refine own_st (fun t k => XS.iload X237.here hx rfl (hb hby at_160) rfl k) ?_
    show own_E p e below _ T237 (mkF m 162 #[iv p1, iv p2, iv p3, iv p4, iv 10, rv b216, iv 1] [.int 1])
    refine own_retS X237 hx Bd.notSynchronized Bd.returns rfl (by decide) (hb hby at_162) (by decide) (by decide) ?_
    exact ⟨rfl, N237⟩
  · rw [hs1]
    show own_E p e below _ s₁ (mkF m 9 #[iv p1, iv p2, iv p3, iv p4, iv 11, .unset, .unset] [])
    obtain ⟨T238, h238, X238, e238, E238, A238, D238, -, st238⟩ := newO X0 hx hZ hown (own_w hw 1 rfl) (own_w hw 2 rfl) (own_w hw 3 rfl) e0 (g := (mkF m 9 #[iv p1, iv p2, iv p3, iv p4, iv 11, .unset, .unset] [])) rfl (hb hby at_9) (by decide) (by decide)
    obtain ⟨b238, g238⟩ : ∃ z, z = h0.size := ⟨_, rfl⟩
    rw [← g238] at A238 D238 st238
    have g_b238 : n0 ≤ b238 := Nat.le_trans Z0 (Nat.le_of_eq g238.symm)
    have Z239 := Nat.le_trans Z0 E238.1
    have F_values_b238 : Fld Z h238 b238 "com/example/kalchas/kalchas/IntList" "values" "[I" .null := D238 (Or.inl (own_w hw 12 rfl)) (ty := (.array .int)) (by decide)
    have F_size_b238 : Fld Z h238 b238 "com/example/kalchas/kalchas/IntList" "size" "I" (.int (0 : Int32)) := D238 (Or.inl (own_w hw 19 rfl)) (ty := .int) (by decide)
    refine own_st st238 ?_
    show own_E p e below _ T238 (mkF m 12 #[iv p1, iv p2, iv p3, iv p4, iv 11, .unset, .unset] [.ref b238])
    refine own_st (fun t k => XS.dup X238.here hx rfl (hb hby at_12) rfl rfl k) ?_
    show own_E p e below _ T238 (mkF m 13 #[iv p1, iv p2, iv p3, iv p4, iv 11, .unset, .unset] [.ref b238, .ref b238])
    obtain ⟨_, _, ⟨T240, L240, k240, n240⟩, -, X240, ⟨Lc240, hQ240, l240, y240, z240⟩, st240⟩ := X238.specialBack hx (y := own_y2) rfl hown (mvT hZ (own_w hw 4 rfl)) (mvT hZ (own_w hw 5 rfl)) (mvT hZ (own_w hw 6 rfl)) (by decide) (backOf (W := 1) (own_init l Z a0 hw [] b238 h238 n0 Z239 A238 F_values_b238 F_size_b238 g_b238) hZ (own_w hw 6 rfl) (own_w hw 3 rfl) (by decide) (by decide)) (g := (mkF m 13 #[iv p1, iv p2, iv p3, iv p4, iv 11, .unset, .unset] [.ref b238, .ref b238])) rfl (by rw [hml]; rfl) (Steps.refl _) (a := b238) (argsL := []) (rest := [(.ref b238)]) (lenOf own_pd_1 rfl) rfl (by show 2 * 0 + _ ≤ _; exact Nat.le_of_eq rfl) (hb hby at_13) (fun _ _ => ⟨rfl, e238, (by decide : 1 + 1 ≤ _), (by decide : 2 + 16 ≤ _)⟩)
    dsimp only [Pt.U, Pt.locs, Pt.cells, Pt.slots] at X240 l240 y240 z240 st240 hQ240
    subst l240 y240 z240
    obtain ⟨b240_o0, k240_o1, rfl, Nq240, Kq240, sz240_0, P240_0, P240_1, P240_2, P240_3⟩ := hQ240
    have N240 := Fr.app (Fr.nil n0) Nq240
    have ne_b238_b240_o0 : b238 ≠ b240_o0 := Nat.ne_of_lt (Nat.lt_of_lt_of_le A238.lt sz240_0)
    have g_b240_o0 : n0 ≤ b240_o0 := Nat.le_trans Z239 sz240_0
    have e240 : T240.heap = T240.heap := rfl
    have Z241 := Nat.le_trans Z239 Kq240.1
    refine own_tr st240 ?_
    show own_E p e below _ T240 (mkF m 16 #[iv p1, iv p2, iv p3, iv p4, iv 11, .unset, .unset] [.ref b238])
    refine own_st (fun t k => XS.astore X240.here hx rfl (hb hby at_16) rfl rfl (l' := #[iv p1, iv p2, iv p3, iv p4, iv 11, rv b238, .unset]) rfl k) ?_
    show own_E p e below _ T240 (mkF m 18 #[iv p1, iv p2, iv p3, iv p4, iv 11, rv b238, .unset] [])
    refine own_st (fun t k => XS.aload X240.here hx rfl (hb hby at_18) rfl rfl k) ?_
    show own_E p e below _ T240 (mkF m 20 #[iv p1, iv p2, iv p3, iv p4, iv 11, rv b238, .unset] [.ref b238])
    refine own_st (fun t k => XS.iload X240.here hx rfl (hb hby at_20) rfl k) ?_
    show own_E p e below _ T240 (mkF m 22 #[iv p1, iv p2, iv p3, iv p4, iv 11, rv b238, .unset] [.int 11, .ref b238])
    obtain ⟨cq242, kq242, q242a, q242b, q242c⟩ := isOf hZ e240 P240_0
    obtain ⟨_, _, ⟨T242, L242, k242, n242⟩, -, X242, ⟨Lc242, hQ242, l242, y242, z242⟩, st242⟩ := X240.virtualBack hx (y := own_y3) (z := own_y3) hown (mvT hZ (own_w hw 13 rfl)) (mvT hZ (own_w hw 14 rfl)) (notFace_of_selects (args := #[]) (mvT hZ (own_w hw 16 rfl))) (mvT hZ (own_w hw 16 rfl)) (mvT hZ (own_w hw 15 rfl)) (by decide) (backOf (W := 0) (own_trunc l Z a0 hw [] b238 b240_o0 (11 : Int32) (0 : Int32) T240.heap n0 Z241 P240_0 P240_1 P240_2 g_b238) hZ (own_w hw 17 rfl) (own_w hw 3 rfl) (by decide) (by decide)) q242a q242c (g := (mkF m 22 #[iv p1, iv p2, iv p3, iv p4, iv 11, rv b238, .unset] [.int 11, .ref b238])) rfl (by rw [hml]; rfl) (Steps.refl _) (argsL := [(.int (11 : Int32))]) (rest := []) (lenOf own_pd_3 rfl) rfl (by show 2 * 0 + _ ≤ _; exact Nat.le_of_eq rfl) (hb hby at_22) (fun _ _ => ⟨rfl, e240, (by decide : 2 + 0 ≤ _), (by decide : 18 + 0 ≤ _)⟩)
    dsimp only [Pt.U, Pt.locs, Pt.cells, Pt.slots] at X242 l242 y242 z242 st242 hQ242
    subst l242 y242 z242
    obtain ⟨rfl, Nq242, Kq242, P242_0, P242_1, P242_2⟩ := hQ242
    have N242 := Fr.app N240 Nq242
    have e242 : T242.heap = T242.heap := rfl
    have Z243 := Nat.le_trans Z241 Kq242.1
    refine own_tr st242 ?_
    show own_E p e below _ T242 (mkF m 25 #[iv p1, iv p2, iv p3, iv p4, iv 11, rv b238, .unset] [])
    refine own_st (fun t k => XS.iload X242.here hx rfl (hb hby at_25) rfl k) ?_
    show own_E p e below _ T242 (mkF m 27 #[iv p1, iv p2, iv p3, iv p4, iv 11, rv b238, .unset] [.int 11])
    refine own_st (fun t k => XS.ifNo X242.here hx rfl (hb hby at_27) rfl (by decide) k) ?_
    show own_E p e below _ T242 (mkF m 30 #[iv p1, iv p2, iv p3, iv p4, iv 11, rv b238, .unset] [])
    refine own_st (fun t k => XS.aload X242.here hx rfl (hb hby at_30) rfl rfl k) ?_
    show own_E p e below _ T242 (mkF m 32 #[iv p1, iv p2, iv p3, iv p4, iv 11, rv b238, .unset] [.ref b238])
    refine own_st (fun t k => XS.iload X242.here hx rfl (hb hby at_32) rfl k) ?_
    show own_E p e below _ T242 (mkF m 34 #[iv p1, iv p2, iv p3, iv p4, iv 11, rv b238, .unset] [.int 11, .ref b238])
    refine own_st (fun t k => XS.iconst X242.here hx rfl (hb hby at_34) k) ?_
    show own_E p e below _ T242 (mkF m 35 #[iv p1, iv p2, iv p3, iv p4, iv 11, rv b238, .unset] [.int 1, .int 11, .ref b238])
    refine own_st (fun t k => XS.isub X242.here hx rfl (hb hby at_35) rfl k) ?_
    show own_E p e below _ T242 (mkF m 36 #[iv p1, iv p2, iv p3, iv p4, iv 11, rv b238, .unset] [.int 10, .ref b238])
    refine own_st (fun t k => XS.iloadN X242.here hx rfl (hb hby at_36) rfl k) ?_
    show own_E p e below _ T242 (mkF m 37 #[iv p1, iv p2, iv p3, iv p4, iv 11, rv b238, .unset] [.int p3, .int 10, .ref b238])
    have B244 := (P240_3.keep Kq242 (ninS (Ne.symm ne_b238_b240_o0) nin0))
    obtain ⟨cq245, kq245, q245a, q245b, q245c⟩ := isOf hZ e242 P242_0
    obtain ⟨_, _, ⟨T245, L245, k245, n245⟩, -, X245, ⟨Lc245, hQ245, l245, y245, z245⟩, st245⟩ := X242.virtualBack hx (y := own_y4) (z := own_y4) hown (mvT hZ (own_w hw 20 rfl)) (mvT hZ (own_w hw 21 rfl)) (notFace_of_selects (args := #[]) (mvT hZ (own_w hw 23 rfl))) (mvT hZ (own_w hw 23 rfl)) (mvT hZ (own_w hw 22 rfl)) (by decide) (backOf (W := 0) (own_set10 l Z a0 hw [] b238 b240_o0 k240_o1 p3 (0 : Int32) (0 : Int32) (0 : Int32) (0 : Int32) (0 : Int32) (0 : Int32) (0 : Int32) (0 : Int32) (0 : Int32) (0 : Int32) (0 : Int32) (0 : Int32) (0 : Int32) (0 : Int32) (0 : Int32) (0 : Int32) T242.heap n0 Z243 P242_1 B244 ne_b238_b240_o0 g_b240_o0) hZ (own_w hw 24 rfl) (own_w hw 3 rfl) (by decide) (by decide)) q245a q245c (g := (mkF m 37 #[iv p1, iv p2, iv p3, iv p4, iv 11, rv b238, .unset] [.int p3, .int 10, .ref b238])) rfl (by rw [hml]; rfl) (Steps.refl _) (argsL := [(.int (10 : Int32)), (.int p3)]) (rest := []) (lenOf own_pd_5 rfl) rfl (by show 2 * 0 + _ ≤ _; exact Nat.le_of_eq rfl) (hb hby at_37) (fun _ _ => ⟨rfl, e242, (by decide : 2 + 0 ≤ _), (by decide : 18 + 0 ≤ _)⟩)
    dsimp only [Pt.U, Pt.locs, Pt.cells, Pt.slots] at X245 l245 y245 z245 st245 hQ245
    subst l245 y245 z245
    obtain ⟨rfl, Nq245, Kq245, P245_0⟩ := hQ245
    have N245 := Fr.app N242 Nq245
    have e245 : T245.heap = T245.heap := rfl
    have Z246 := Nat.le_trans Z243 Kq245.1
    refine own_tr st245 ?_
    show own_E p e below _ T245 (mkF m 40 #[iv p1, iv p2, iv p3, iv p4, iv 11, rv b238, .unset] [])
    refine own_st (fun t k => XS.aload X245.here hx rfl (hb hby at_40) rfl rfl k) ?_
    show own_E p e below _ T245 (mkF m 42 #[iv p1, iv p2, iv p3, iv p4, iv 11, rv b238, .unset] [.ref b238])
    refine own_st (fun t k => XS.iloadN X245.here hx rfl (hb hby at_42) rfl k) ?_
    show own_E p e below _ T245 (mkF m 43 #[iv p1, iv p2, iv p3, iv p4, iv 11, rv b238, .unset] [.int p1, .ref b238])
    have B247 := (P242_0.keep Kq245)
    have B248 := (P242_1.keep Kq245 (ninS ne_b238_b240_o0 nin0))
    have B249 := (P242_2.keep Kq245 (ninS ne_b238_b240_o0 nin0))
    obtain ⟨cq250, kq250, q250a, q250b, q250c⟩ := isOf hZ e245 B247
    obtain ⟨_, _, ⟨T250, L250, k250, n250⟩, -, X250, ⟨Lc250, hQ250, l250, y250, z250⟩, st250⟩ := X245.virtualBack hx (y := own_y5) (z := own_y5) hown (mvT hZ (own_w hw 25 rfl)) (mvT hZ (own_w hw 26 rfl)) (notFace_of_selects (args := #[]) (mvT hZ (own_w hw 28 rfl))) (mvT hZ (own_w hw 28 rfl)) (mvT hZ (own_w hw 27 rfl)) (by decide) (backOf (W := 0) (own_add11 l Z a0 hw [] b238 b240_o0 k240_o1 p1 (0 : Int32) (0 : Int32) (0 : Int32) (0 : Int32) (0 : Int32) (0 : Int32) (0 : Int32) (0 : Int32) (0 : Int32) (0 : Int32) p3 (0 : Int32) (0 : Int32) (0 : Int32) (0 : Int32) (0 : Int32) T245.heap n0 Z246 B247 B248 B249 P245_0 ne_b238_b240_o0 g_b238 g_b240_o0) hZ (own_w hw 29 rfl) (own_w hw 3 rfl) (by decide) (by decide)) q250a q250c (g := (mkF m 43 #[iv p1, iv p2, iv p3, iv p4, iv 11, rv b238, .unset] [.int p1, .ref b238])) rfl (by rw [hml]; rfl) (Steps.refl _) (argsL := [(.int p1)]) (rest := []) (lenOf own_pd_3 rfl) rfl (by show 2 * 0 + _ ≤ _; exact Nat.le_of_eq rfl) (hb hby at_43) (fun _ _ => ⟨rfl, e245, (by decide : 2 + 0 ≤ _), (by decide : 18 + 0 ≤ _)⟩)
    dsimp only [Pt.U, Pt.locs, Pt.cells, Pt.slots] at X250 l250 y250 z250 st250 hQ250
    subst l250 y250 z250
    obtain ⟨rfl, Nq250, Kq250, P250_0, P250_1, P250_2, P250_3⟩ := hQ250
    have N250 := Fr.app N245 Nq250
    have e250 : T250.heap = T250.heap := rfl
    have Z251 := Nat.le_trans Z246 Kq250.1
    refine own_tr st250 ?_
    show own_E p e below _ T250 (mkF m 46 #[iv p1, iv p2, iv p3, iv p4, iv 11, rv b238, .unset] [])
    refine own_st (fun t k => XS.aload X250.here hx rfl (hb hby at_46) rfl rfl k) ?_
    show own_E p e below _ T250 (mkF m 48 #[iv p1, iv p2, iv p3, iv p4, iv 11, rv b238, .unset] [.ref b238])
    obtain ⟨cq252, kq252, q252a, q252b, q252c⟩ := isOf hZ e250 P250_0
    obtain ⟨_, _, ⟨T252, L252, k252, n252⟩, -, X252, ⟨Lc252, hQ252, l252, y252, z252⟩, st252⟩ := X250.virtualBack hx (y := own_y7) (z := own_y7) hown (mvT hZ (own_w hw 30 rfl)) (mvT hZ (own_w hw 31 rfl)) (notFace_of_selects (args := #[]) (mvT hZ (own_w hw 33 rfl))) (mvT hZ (own_w hw 33 rfl)) (mvT hZ (own_w hw 32 rfl)) (by decide) (backOf (W := 0) (own_size l Z a0 hw [] b238 (12 : Int32) T250.heap n0 Z251 P250_2) hZ (own_w hw 34 rfl) (own_w hw 3 rfl) (by decide) (by decide)) q252a q252c (g := (mkF m 48 #[iv p1, iv p2, iv p3, iv p4, iv 11, rv b238, .unset] [.ref b238])) rfl (by rw [hml]; rfl) (Steps.refl _) (argsL := []) (rest := []) (lenOf own_pd_0 rfl) rfl (by show 2 * 0 + _ ≤ _; exact Nat.le_of_eq rfl) (hb hby at_48) (fun _ _ => ⟨rfl, e250, (by decide : 2 + 0 ≤ _), (by decide : 18 + 0 ≤ _)⟩)
    dsimp only [Pt.U, Pt.locs, Pt.cells, Pt.slots] at X252 l252 y252 z252 st252 hQ252
    subst l252 y252 z252
    obtain ⟨hR252, e252, rfl⟩ := hQ252
    have N252 := Fr.app N250 (Fr.nil n0)
    obtain rfl := hR252
    refine own_tr st252 ?_
    show own_E p e below _ T252 (mkF m 51 #[iv p1, iv p2, iv p3, iv p4, iv 11, rv b238, .unset] [.int 12])
    refine own_st (fun t k => XS.iload X252.here hx rfl (hb hby at_51) rfl k) ?_
    show own_E p e below _ T252 (mkF m 53 #[iv p1, iv p2, iv p3, iv p4, iv 11, rv b238, .unset] [.int 11, .int 12])
    refine own_st (fun t k => XS.iconst X252.here hx rfl (hb hby at_53) k) ?_
    show own_E p e below _ T252 (mkF m 54 #[iv p1, iv p2, iv p3, iv p4, iv 11, rv b238, .unset] [.int 1, .int 11, .int 12])
    refine own_st (fun t k => XS.iadd X252.here hx rfl (hb hby at_54) rfl k) ?_
    show own_E p e below _ T252 (mkF m 55 #[iv p1, iv p2, iv p3, iv p4, iv 11, rv b238, .unset] [.int 12, .int 12])
    refine own_st (fun t k => XS.icmpNo X252.here hx rfl (hb hby at_55) rfl (by decide) k) ?_
    show own_E p e below _ T252 (mkF m 58 #[iv p1, iv p2, iv p3, iv p4, iv 11, rv b238, .unset] [])
    refine own_st (fun t k => XS.aload X252.here hx rfl (hb hby at_58) rfl rfl k) ?_
    show own_E p e below _ T252 (mkF m 60 #[iv p1, iv p2, iv p3, iv p4, iv 11, rv b238, .unset] [.ref b238])
    refine own_st (fun t k => XS.iload X252.here hx rfl (hb hby at_60) rfl k) ?_
    show own_E p e below _ T252 (mkF m 62 #[iv p1, iv p2, iv p3, iv p4, iv 11, rv b238, .unset] [.int 11, .ref b238])
    obtain ⟨cq253, kq253, q253a, q253b, q253c⟩ := isOf hZ e252 P250_0
    obtain ⟨_, _, ⟨T253, L253, k253, n253⟩, -, X253, ⟨Lc253, hQ253, l253, y253, z253⟩, st253⟩ := X252.virtualBack hx (y := own_y6) (z := own_y6) hown (mvT hZ (own_w hw 35 rfl)) (mvT hZ (own_w hw 36 rfl)) (notFace_of_selects (args := #[]) (mvT hZ (own_w hw 38 rfl))) (mvT hZ (own_w hw 38 rfl)) (mvT hZ (own_w hw 37 rfl)) (by decide) (backOf (W := 0) (own_get16_11 l Z a0 hw [] b238 b240_o0 k240_o1 (0 : Int32) (0 : Int32) (0 : Int32) (0 : Int32) (0 : Int32) (0 : Int32) (0 : Int32) (0 : Int32) (0 : Int32) (0 : Int32) p3 p1 (0 : Int32) (0 : Int32) (0 : Int32) (0 : Int32) T250.heap n0 Z251 P250_1 P250_3) hZ (own_w hw 39 rfl) (own_w hw 3 rfl) (by decide) (by decide)) q253a q253c (g := (mkF m 62 #[iv p1, iv p2, iv p3, iv p4, iv 11, rv b238, .unset] [.int 11, .ref b238])) rfl (by rw [hml]; rfl) (Steps.refl _) (argsL := [(.int (11 : Int32))]) (rest := []) (lenOf own_pd_2 rfl) rfl (by show 2 * 0 + _ ≤ _; exact Nat.le_of_eq rfl) (hb hby at_62) (fun _ _ => ⟨rfl, e252, (by decide : 2 + 0 ≤ _), (by decide : 18 + 0 ≤ _)⟩)
    dsimp only [Pt.U, Pt.locs, Pt.cells, Pt.slots] at X253 l253 y253 z253 st253 hQ253
    subst l253 y253 z253
    obtain ⟨hR253, e253, rfl⟩ := hQ253
    have N253 := Fr.app N252 (Fr.nil n0)
    obtain rfl := hR253
    refine own_tr st253 ?_
    show own_E p e below _ T253 (mkF m 65 #[iv p1, iv p2, iv p3, iv p4, iv 11, rv b238, .unset] [.int p1])
    refine own_st (fun t k => XS.iloadN X253.here hx rfl (hb hby at_65) rfl k) ?_
    show own_E p e below _ T253 (mkF m 66 #[iv p1, iv p2, iv p3, iv p4, iv 11, rv b238, .unset] [.int p1, .int p1])
    refine own_st (fun t k => XS.icmpNo X253.here hx rfl (hb hby at_66) rfl (teq rfl).2 k) ?_
    show own_E p e below _ T253 (mkF m 69 #[iv p1, iv p2, iv p3, iv p4, iv 11, rv b238, .unset] [])
    refine own_st (fun t k => XS.iconst X253.here hx rfl (hb hby at_69) k) ?_
    show own_E p e below _ T253 (mkF m 70 #[iv p1, iv p2, iv p3, iv p4, iv 11, rv b238, .unset] [.int 1])
    refine own_st (fun t k => XS.goto X253.here hx rfl (pc0 := 70) (pc' := 74) rfl (hb hby at_70) (by decide) (by decide) k) ?_
    show own_E p e below _ T253 (mkF m 74 #[iv p1, iv p2, iv p3, iv p4, iv 11, rv b238, .unset] [.int 1])
    refine own_st (fun t k => XS.istore X253.here hx rfl (hb hby at_74) rfl (l' := #[iv p1, iv p2, iv p3, iv p4, iv 11, rv b238, iv 1]) rfl k) ?_
    show own_E p e below _ T253 (mkF m 76 #[iv p1, iv p2, iv p3, iv p4, iv 11, rv b238, iv 1] [])
    refine own_st (fun t k => XS.aload X253.here hx rfl (hb hby at_76) rfl rfl k) ?_
    show own_E p e below _ T253 (mkF m 78 #[iv p1, iv p2, iv p3, iv p4, iv 11, rv b238, iv 1] [.ref b238])
    refine own_st (fun t k => XS.iloadN X253.here hx rfl (hb hby at_78) rfl k) ?_
    show own_E p e below _ T253 (mkF m 79 #[iv p1, iv p2, iv p3, iv p4, iv 11, rv b238, iv 1] [.int p2, .ref b238])
    obtain ⟨cq254, kq254, q254a, q254b, q254c⟩ := isOf hZ e253 P250_0
    obtain ⟨_, _, ⟨T254, L254, k254, n254⟩, -, X254, ⟨Lc254, hQ254, l254, y254, z254⟩, st254⟩ := X253.virtualBack hx (y := own_y5) (z := own_y5) hown (mvT hZ (own_w hw 25 rfl)) (mvT hZ (own_w hw 26 rfl)) (notFace_of_selects (args := #[]) (mvT hZ (own_w hw 28 rfl))) (mvT hZ (own_w hw 28 rfl)) (mvT hZ (own_w hw 27 rfl)) (by decide) (backOf (W := 0) (own_add12 l Z a0 hw [] b238 b240_o0 k240_o1 p2 (0 : Int32) (0 : Int32) (0 : Int32) (0 : Int32) (0 : Int32) (0 : Int32) (0 : Int32) (0 : Int32) (0 : Int32) (0 : Int32) p3 p1 (0 : Int32) (0 : Int32) (0 : Int32) (0 : Int32) T250.heap n0 Z251 P250_0 P250_1 P250_2 P250_3 ne_b238_b240_o0 g_b238 g_b240_o0) hZ (own_w hw 29 rfl) (own_w hw 3 rfl) (by decide) (by decide)) q254a q254c (g := (mkF m 79 #[iv p1, iv p2, iv p3, iv p4, iv 11, rv b238, iv 1] [.int p2, .ref b238])) rfl (by rw [hml]; rfl) (Steps.refl _) (argsL := [(.int p2)]) (rest := []) (lenOf own_pd_3 rfl) rfl (by show 2 * 0 + _ ≤ _; exact Nat.le_of_eq rfl) (hb hby at_79) (fun _ _ => ⟨rfl, e253, (by decide : 2 + 0 ≤ _), (by decide : 18 + 0 ≤ _)⟩)
    dsimp only [Pt.U, Pt.locs, Pt.cells, Pt.slots] at X254 l254 y254 z254 st254 hQ254
    subst l254 y254 z254
    obtain ⟨rfl, Nq254, Kq254, P254_0, P254_1, P254_2, P254_3⟩ := hQ254
    have N254 := Fr.app N253 Nq254
    have e254 : T254.heap = T254.heap := rfl
    have Z255 := Nat.le_trans Z251 Kq254.1
    refine own_tr st254 ?_
    show own_E p e below _ T254 (mkF m 82 #[iv p1, iv p2, iv p3, iv p4, iv 11, rv b238, iv 1] [])
    refine own_st (fun t k => XS.iload X254.here hx rfl (hb hby at_82) rfl k) ?_
    show own_E p e below _ T254 (mkF m 84 #[iv p1, iv p2, iv p3, iv p4, iv 11, rv b238, iv 1] [.int 1])
    refine own_st (fun t k => XS.ifNo X254.here hx rfl (hb hby at_84) rfl (by decide) k) ?_
    show own_E p e below _ T254 (mkF m 87 #[iv p1, iv p2, iv p3, iv p4, iv 11, rv b238, iv 1] [])
    refine own_st (fun t k => XS.aload X254.here hx rfl (hb hby at_87) rfl rfl k) ?_
    show own_E p e below _ T254 (mkF m 89 #[iv p1, iv p2, iv p3, iv p4, iv 11, rv b238, iv 1] [.ref b238])
    obtain ⟨cq256, kq256, q256a, q256b, q256c⟩ := isOf hZ e254 P254_0
    obtain ⟨_, _, ⟨T256, L256, k256, n256⟩, -, X256, ⟨Lc256, hQ256, l256, y256, z256⟩, st256⟩ := X254.virtualBack hx (y := own_y7) (z := own_y7) hown (mvT hZ (own_w hw 30 rfl)) (mvT hZ (own_w hw 31 rfl)) (notFace_of_selects (args := #[]) (mvT hZ (own_w hw 33 rfl))) (mvT hZ (own_w hw 33 rfl)) (mvT hZ (own_w hw 32 rfl)) (by decide) (backOf (W := 0) (own_size l Z a0 hw [] b238 (13 : Int32) T254.heap n0 Z255 P254_2) hZ (own_w hw 34 rfl) (own_w hw 3 rfl) (by decide) (by decide)) q256a q256c (g := (mkF m 89 #[iv p1, iv p2, iv p3, iv p4, iv 11, rv b238, iv 1] [.ref b238])) rfl (by rw [hml]; rfl) (Steps.refl _) (argsL := []) (rest := []) (lenOf own_pd_0 rfl) rfl (by show 2 * 0 + _ ≤ _; exact Nat.le_of_eq rfl) (hb hby at_89) (fun _ _ => ⟨rfl, e254, (by decide : 2 + 0 ≤ _), (by decide : 18 + 0 ≤ _)⟩)
    dsimp only [Pt.U, Pt.locs, Pt.cells, Pt.slots] at X256 l256 y256 z256 st256 hQ256
    subst l256 y256 z256
    obtain ⟨hR256, e256, rfl⟩ := hQ256
    have N256 := Fr.app N254 (Fr.nil n0)
    obtain rfl := hR256
    refine own_tr st256 ?_
    show own_E p e below _ T256 (mkF m 92 #[iv p1, iv p2, iv p3, iv p4, iv 11, rv b238, iv 1] [.int 13])
    refine own_st (fun t k => XS.iload X256.here hx rfl (hb hby at_92) rfl k) ?_
    show own_E p e below _ T256 (mkF m 94 #[iv p1, iv p2, iv p3, iv p4, iv 11, rv b238, iv 1] [.int 11, .int 13])
    refine own_st (fun t k => XS.iconst X256.here hx rfl (hb hby at_94) k) ?_
    show own_E p e below _ T256 (mkF m 95 #[iv p1, iv p2, iv p3, iv p4, iv 11, rv b238, iv 1] [.int 2, .int 11, .int 13])
    refine own_st (fun t k => XS.iadd X256.here hx rfl (hb hby at_95) rfl k) ?_
    show own_E p e below _ T256 (mkF m 96 #[iv p1, iv p2, iv p3, iv p4, iv 11, rv b238, iv 1] [.int 13, .int 13])
    refine own_st (fun t k => XS.icmpNo X256.here hx rfl (hb hby at_96) rfl (by decide) k) ?_
    show own_E p e below _ T256 (mkF m 99 #[iv p1, iv p2, iv p3, iv p4, iv 11, rv b238, iv 1] [])
    refine own_st (fun t k => XS.aload X256.here hx rfl (hb hby at_99) rfl rfl k) ?_
    show own_E p e below _ T256 (mkF m 101 #[iv p1, iv p2, iv p3, iv p4, iv 11, rv b238, iv 1] [.ref b238])
    refine own_st (fun t k => XS.iload X256.here hx rfl (hb hby at_101) rfl k) ?_
    show own_E p e below _ T256 (mkF m 103 #[iv p1, iv p2, iv p3, iv p4, iv 11, rv b238, iv 1] [.int 11, .ref b238])
    obtain ⟨cq257, kq257, q257a, q257b, q257c⟩ := isOf hZ e256 P254_0
    obtain ⟨_, _, ⟨T257, L257, k257, n257⟩, -, X257, ⟨Lc257, hQ257, l257, y257, z257⟩, st257⟩ := X256.virtualBack hx (y := own_y6) (z := own_y6) hown (mvT hZ (own_w hw 35 rfl)) (mvT hZ (own_w hw 36 rfl)) (notFace_of_selects (args := #[]) (mvT hZ (own_w hw 38 rfl))) (mvT hZ (own_w hw 38 rfl)) (mvT hZ (own_w hw 37 rfl)) (by decide) (backOf (W := 0) (own_get16_11 l Z a0 hw [] b238 b240_o0 k240_o1 (0 : Int32) (0 : Int32) (0 : Int32) (0 : Int32) (0 : Int32) (0 : Int32) (0 : Int32) (0 : Int32) (0 : Int32) (0 : Int32) p3 p1 p2 (0 : Int32) (0 : Int32) (0 : Int32) T254.heap n0 Z255 P254_1 P254_3) hZ (own_w hw 39 rfl) (own_w hw 3 rfl) (by decide) (by decide)) q257a q257c (g := (mkF m 103 #[iv p1, iv p2, iv p3, iv p4, iv 11, rv b238, iv 1] [.int 11, .ref b238])) rfl (by rw [hml]; rfl) (Steps.refl _) (argsL := [(.int (11 : Int32))]) (rest := []) (lenOf own_pd_2 rfl) rfl (by show 2 * 0 + _ ≤ _; exact Nat.le_of_eq rfl) (hb hby at_103) (fun _ _ => ⟨rfl, e256, (by decide : 2 + 0 ≤ _), (by decide : 18 + 0 ≤ _)⟩)
    dsimp only [Pt.U, Pt.locs, Pt.cells, Pt.slots] at X257 l257 y257 z257 st257 hQ257
    subst l257 y257 z257
    obtain ⟨hR257, e257, rfl⟩ := hQ257
    have N257 := Fr.app N256 (Fr.nil n0)
    obtain rfl := hR257
    refine own_tr st257 ?_
    show own_E p e below _ T257 (mkF m 106 #[iv p1, iv p2, iv p3, iv p4, iv 11, rv b238, iv 1] [.int p1])
    refine own_st (fun t k => XS.iloadN X257.here hx rfl (hb hby at_106) rfl k) ?_
    show own_E p e below _ T257 (mkF m 107 #[iv p1, iv p2, iv p3, iv p4, iv 11, rv b238, iv 1] [.int p1, .int p1])
    refine own_st (fun t k => XS.icmpNo X257.here hx rfl (hb hby at_107) rfl (teq rfl).2 k) ?_
    show own_E p e below _ T257 (mkF m 110 #[iv p1, iv p2, iv p3, iv p4, iv 11, rv b238, iv 1] [])
    refine own_st (fun t k => XS.aload X257.here hx rfl (hb hby at_110) rfl rfl k) ?_
    show own_E p e below _ T257 (mkF m 112 #[iv p1, iv p2, iv p3, iv p4, iv 11, rv b238, iv 1] [.ref b238])
    refine own_st (fun t k => XS.iload X257.here hx rfl (hb hby at_112) rfl k) ?_
    show own_E p e below _ T257 (mkF m 114 #[iv p1, iv p2, iv p3, iv p4, iv 11, rv b238, iv 1] [.int 11, .ref b238])
    refine own_st (fun t k => XS.iconst X257.here hx rfl (hb hby at_114) k) ?_
    show own_E p e below _ T257 (mkF m 115 #[iv p1, iv p2, iv p3, iv p4, iv 11, rv b238, iv 1] [.int 1, .int 11, .ref b238])
    refine own_st (fun t k => XS.iadd X257.here hx rfl (hb hby at_115) rfl k) ?_
    show own_E p e below _ T257 (mkF m 116 #[iv p1, iv p2, iv p3, iv p4, iv 11, rv b238, iv 1] [.int 12, .ref b238])
    obtain ⟨cq258, kq258, q258a, q258b, q258c⟩ := isOf hZ e257 P254_0
    obtain ⟨_, _, ⟨T258, L258, k258, n258⟩, -, X258, ⟨Lc258, hQ258, l258, y258, z258⟩, st258⟩ := X257.virtualBack hx (y := own_y6) (z := own_y6) hown (mvT hZ (own_w hw 35 rfl)) (mvT hZ (own_w hw 36 rfl)) (notFace_of_selects (args := #[]) (mvT hZ (own_w hw 38 rfl))) (mvT hZ (own_w hw 38 rfl)) (mvT hZ (own_w hw 37 rfl)) (by decide) (backOf (W := 0) (own_get16_12 l Z a0 hw [] b238 b240_o0 k240_o1 (0 : Int32) (0 : Int32) (0 : Int32) (0 : Int32) (0 : Int32) (0 : Int32) (0 : Int32) (0 : Int32) (0 : Int32) (0 : Int32) p3 p1 p2 (0 : Int32) (0 : Int32) (0 : Int32) T254.heap n0 Z255 P254_1 P254_3) hZ (own_w hw 39 rfl) (own_w hw 3 rfl) (by decide) (by decide)) q258a q258c (g := (mkF m 116 #[iv p1, iv p2, iv p3, iv p4, iv 11, rv b238, iv 1] [.int 12, .ref b238])) rfl (by rw [hml]; rfl) (Steps.refl _) (argsL := [(.int (12 : Int32))]) (rest := []) (lenOf own_pd_2 rfl) rfl (by show 2 * 0 + _ ≤ _; exact Nat.le_of_eq rfl) (hb hby at_116) (fun _ _ => ⟨rfl, e257, (by decide : 2 + 0 ≤ _), (by decide : 18 + 0 ≤ _)⟩)
    dsimp only [Pt.U, Pt.locs, Pt.cells, Pt.slots] at X258 l258 y258 z258 st258 hQ258
    subst l258 y258 z258
    obtain ⟨hR258, e258, rfl⟩ := hQ258
    have N258 := Fr.app N257 (Fr.nil n0)
    obtain rfl := hR258
    refine own_tr st258 ?_
    show own_E p e below _ T258 (mkF m 119 #[iv p1, iv p2, iv p3, iv p4, iv 11, rv b238, iv 1] [.int p2])
    refine own_st (fun t k => XS.iloadN X258.here hx rfl (hb hby at_119) rfl k) ?_
    show own_E p e below _ T258 (mkF m 120 #[iv p1, iv p2, iv p3, iv p4, iv 11, rv b238, iv 1] [.int p2, .int p2])
    refine own_st (fun t k => XS.icmpNo X258.here hx rfl (hb hby at_120) rfl (teq rfl).2 k) ?_
    show own_E p e below _ T258 (mkF m 123 #[iv p1, iv p2, iv p3, iv p4, iv 11, rv b238, iv 1] [])
    refine own_st (fun t k => XS.iconst X258.here hx rfl (hb hby at_123) k) ?_
    show own_E p e below _ T258 (mkF m 124 #[iv p1, iv p2, iv p3, iv p4, iv 11, rv b238, iv 1] [.int 1])
    refine own_st (fun t k => XS.goto X258.here hx rfl (pc0 := 124) (pc' := 128) rfl (hb hby at_124) (by decide) (by decide) k) ?_
    show own_E p e below _ T258 (mkF m 128 #[iv p1, iv p2, iv p3, iv p4, iv 11, rv b238, iv 1] [.int 1])
    refine own_st (fun t k => XS.istore X258.here hx rfl (hb hby at_128) rfl (l' := #[iv p1, iv p2, iv p3, iv p4, iv 11, rv b238, iv 1]) rfl k) ?_
    show own_E p e below _ T258 (mkF m 130 #[iv p1, iv p2, iv p3, iv p4, iv 11, rv b238, iv 1] [])
    refine own_st (fun t k => XS.iload X258.here hx rfl (hb hby at_130) rfl k) ?_
    show own_E p e below _ T258 (mkF m 132 #[iv p1, iv p2, iv p3, iv p4, iv 11, rv b238, iv 1] [.int 11])
    refine own_st (fun t k => XS.ifNo X258.here hx rfl (hb hby at_132) rfl (by decide) k) ?_
    show own_E p e below _ T258 (mkF m 135 #[iv p1, iv p2, iv p3, iv p4, iv 11, rv b238, iv 1] [])
    refine own_st (fun t k => XS.iload X258.here hx rfl (hb hby at_135) rfl k) ?_
    show own_E p e below _ T258 (mkF m 137 #[iv p1, iv p2, iv p3, iv p4, iv 11, rv b238, iv 1] [.int 1])
    refine own_st (fun t k => XS.ifNo X258.here hx rfl (hb hby at_137) rfl (by decide) k) ?_
    show own_E p e below _ T258 (mkF m 140 #[iv p1, iv p2, iv p3, iv p4, iv 11, rv b238, iv 1] [])
    refine own_st (fun t k => XS.aload X258.here hx rfl (hb hby at_140) rfl rfl k) ?_
    show own_E p e below _ T258 (mkF m 142 #[iv p1, iv p2, iv p3, iv p4, iv 11, rv b238, iv 1] [.ref b238])
    refine own_st (fun t k => XS.iload X258.here hx rfl (hb hby at_142) rfl k) ?_
    show own_E p e below _ T258 (mkF m 144 #[iv p1, iv p2, iv p3, iv p4, iv 11, rv b238, iv 1] [.int 11, .ref b238])
    refine own_st (fun t k => XS.iconst X258.here hx rfl (hb hby at_144) k) ?_
    show own_E p e below _ T258 (mkF m 145 #[iv p1, iv p2, iv p3, iv p4, iv 11, rv b238, iv 1] [.int 1, .int 11, .ref b238])
    refine own_st (fun t k => XS.isub X258.here hx rfl (hb hby at_145) rfl k) ?_
    show own_E p e below _ T258 (mkF m 146 #[iv p1, iv p2, iv p3, iv p4, iv 11, rv b238, iv 1] [.int 10, .ref b238])
    obtain ⟨cq259, kq259, q259a, q259b, q259c⟩ := isOf hZ e258 P254_0
    obtain ⟨_, _, ⟨T259, L259, k259, n259⟩, -, X259, ⟨Lc259, hQ259, l259, y259, z259⟩, st259⟩ := X258.virtualBack hx (y := own_y6) (z := own_y6) hown (mvT hZ (own_w hw 35 rfl)) (mvT hZ (own_w hw 36 rfl)) (notFace_of_selects (args := #[]) (mvT hZ (own_w hw 38 rfl))) (mvT hZ (own_w hw 38 rfl)) (mvT hZ (own_w hw 37 rfl)) (by decide) (backOf (W := 0) (own_get16_10 l Z a0 hw [] b238 b240_o0 k240_o1 (0 : Int32) (0 : Int32) (0 : Int32) (0 : Int32) (0 : Int32) (0 : Int32) (0 : Int32) (0 : Int32) (0 : Int32) (0 : Int32) p3 p1 p2 (0 : Int32) (0 : Int32) (0 : Int32) T254.heap n0 Z255 P254_1 P254_3) hZ (own_w hw 39 rfl) (own_w hw 3 rfl) (by decide) (by decide)) q259a q259c (g := (mkF m 146 #[iv p1, iv p2, iv p3, iv p4, iv 11, rv b238, iv 1] [.int 10, .ref b238])) rfl (by rw [hml]; rfl) (Steps.refl _) (argsL := [(.int (10 : Int32))]) (rest := []) (lenOf own_pd_2 rfl) rfl (by show 2 * 0 + _ ≤ _; exact Nat.le_of_eq rfl) (hb hby at_146) (fun _ _ => ⟨rfl, e258, (by decide : 2 + 0 ≤ _), (by decide : 18 + 0 ≤ _)⟩)
    dsimp only [Pt.U, Pt.locs, Pt.cells, Pt.slots] at X259 l259 y259 z259 st259 hQ259
    subst l259 y259 z259
    obtain ⟨hR259, e259, rfl⟩ := hQ259
    have N259 := Fr.app N258 (Fr.nil n0)
    obtain rfl := hR259
    refine own_tr st259 ?_
    show own_E p e below _ T259 (mkF m 149 #[iv p1, iv p2, iv p3, iv p4, iv 11, rv b238, iv 1] [.int p3])
    refine own_st (fun t k => XS.iloadN X259.here hx rfl (hb hby at_149) rfl k) ?_
    show own_E p e below _ T259 (mkF m 150 #[iv p1, iv p2, iv p3, iv p4, iv 11, rv b238, iv 1] [.int p3, .int p3])
    refine own_st (fun t k => XS.icmpNo X259.here hx rfl (hb hby at_150) rfl (teq rfl).2 k) ?_
    show own_E p e below _ T259 (mkF m 153 #[iv p1, iv p2, iv p3, iv p4, iv 11, rv b238, iv 1] [])
    refine own_st (fun t k => XS.iconst X259.here hx rfl (hb hby at_153) k) ?_
    show own_E p e below _ T259 (mkF m 154 #[iv p1, iv p2, iv p3, iv p4, iv 11, rv b238, iv 1] [.int 1])
    refine own_st (fun t k => XS.goto X259.here hx rfl (pc0 := 154) (pc' := 158) rfl (hb hby at_154) (by decide) (by decide) k) ?_
    show own_E p e below _ T259 (mkF m 158 #[iv p1, iv p2, iv p3, iv p4, iv 11, rv b238, iv 1] [.int 1])
    refine own_st (fun t k => XS.istore X259.here hx rfl (hb hby at_158) rfl (l' := #[iv p1, iv p2, iv p3, iv p4, iv 11, rv b238, iv 1]) rfl k) ?_
    show own_E p e below _ T259 (mkF m 160 #[iv p1, iv p2, iv p3, iv p4, iv 11, rv b238, iv 1] [])
    refine own_st (fun t k => XS.iload X259.here hx rfl (hb hby at_160) rfl k) ?_
    show own_E p e below _ T259 (mkF m 162 #[iv p1, iv p2, iv p3, iv p4, iv 11, rv b238, iv 1] [.int 1])
    refine own_retS X259 hx Bd.notSynchronized Bd.returns rfl (by decide) (hb hby at_162) (by decide) (by decide) ?_
    exact ⟨rfl, N259⟩
  · rw [hs1]
    show own_E p e below _ s₁ (mkF m 9 #[iv p1, iv p2, iv p3, iv p4, iv 12, .unset, .unset] [])
    obtain ⟨T260, h260, X260, e260, E260, A260, D260, -, st260⟩ := newO X0 hx hZ hown (own_w hw 1 rfl) (own_w hw 2 rfl) (own_w hw 3 rfl) e0 (g := (mkF m 9 #[iv p1, iv p2, iv p3, iv p4, iv 12, .unset, .unset] [])) rfl (hb hby at_9) (by decide) (by decide)
    obtain ⟨b260, g260⟩ : ∃ z, z = h0.size := ⟨_, rfl⟩
    rw [← g260] at A260 D260 st260
    have g_b260 : n0 ≤ b260 := Nat.le_trans Z0 (Nat.le_of_eq g260.symm)
    have Z261 := Nat.le_trans Z0 E260.1
    have F_values_b260 : Fld Z h260 b260 "com/example/kalchas/kalchas/IntList" "values" "[I" .null := D260 (Or.inl (own_w hw 12 rfl)) (ty := (.array .int)) (by decide)
    have F_size_b260 : Fld Z h260 b260 "com/example/kalchas/kalchas/IntList" "size" "I" (.int (0 : Int32)) := D260 (Or.inl (own_w hw 19 rfl)) (ty := .int) (by decide)
    refine own_st st260 ?_
    show own_E p e below _ T260 (mkF m 12 #[iv p1, iv p2, iv p3, iv p4, iv 12, .unset, .unset] [.ref b260])
    refine own_st (fun t k => XS.dup X260.here hx rfl (hb hby at_12) rfl rfl k) ?_
    show own_E p e below _ T260 (mkF m 13 #[iv p1, iv p2, iv p3, iv p4, iv 12, .unset, .unset] [.ref b260, .ref b260])
    obtain ⟨_, _, ⟨T262, L262, k262, n262⟩, -, X262, ⟨Lc262, hQ262, l262, y262, z262⟩, st262⟩ := X260.specialBack hx (y := own_y2) rfl hown (mvT hZ (own_w hw 4 rfl)) (mvT hZ (own_w hw 5 rfl)) (mvT hZ (own_w hw 6 rfl)) (by decide) (backOf (W := 1) (own_init l Z a0 hw [] b260 h260 n0 Z261 A260 F_values_b260 F_size_b260 g_b260) hZ (own_w hw 6 rfl) (own_w hw 3 rfl) (by decide) (by decide)) (g := (mkF m 13 #[iv p1, iv p2, iv p3, iv p4, iv 12, .unset, .unset] [.ref b260, .ref b260])) rfl (by rw [hml]; rfl) (Steps.refl _) (a := b260) (argsL := []) (rest := [(.ref b260)]) (lenOf own_pd_1 rfl) rfl (by show 2 * 0 + _ ≤ _; exact Nat.le_of_eq rfl) (hb hby at_13) (fun _ _ => ⟨rfl, e260, (by decide : 1 + 1 ≤ _), (by decide : 2 + 16 ≤ _)⟩)
    dsimp only [Pt.U, Pt.locs, Pt.cells, Pt.slots] at X262 l262 y262 z262 st262 hQ262
    subst l262 y262 z262
    obtain ⟨b262_o0, k262_o1, rfl, Nq262, Kq262, sz262_0, P262_0, P262_1, P262_2, P262_3⟩ := hQ262
    have N262 := Fr.app (Fr.nil n0) Nq262
    have ne_b260_b262_o0 : b260 ≠ b262_o0 := Nat.ne_of_lt (Nat.lt_of_lt_of_le A260.lt sz262_0)
    have g_b262_o0 : n0 ≤ b262_o0 := Nat.le_trans Z261 sz262_0
    have e262 : T262.heap = T262.heap := rfl
    have Z263 := Nat.le_trans Z261 Kq262.1
    refine own_tr st262 ?_
    show own_E p e below _ T262 (mkF m 16 #[iv p1, iv p2, iv p3, iv p4, iv 12, .unset, .unset] [.ref b260])
    refine own_st (fun t k => XS.astore X262.here hx rfl (hb hby at_16) rfl rfl (l' := #[iv p1, iv p2, iv p3, iv p4, iv 12, rv b260, .unset]) rfl k) ?_
    show own_E p e below _ T262 (mkF m 18 #[iv p1, iv p2, iv p3, iv p4, iv 12, rv b260, .unset] [])
    refine own_st (fun t k => XS.aload X262.here hx rfl (hb hby at_18) rfl rfl k) ?_
    show own_E p e below _ T262 (mkF m 20 #[iv p1, iv p2, iv p3, iv p4, iv 12, rv b260, .unset] [.ref b260])
    refine own_st (fun t k => XS.iload X262.here hx rfl (hb hby at_20) rfl k) ?_
    show own_E p e below _ T262 (mkF m 22 #[iv p1, iv p2, iv p3, iv p4, iv 12, rv b260, .unset] [.int 12, .ref b260])
    obtain ⟨cq264, kq264, q264a, q264b, q264c⟩ := isOf hZ e262 P262_0
    obtain ⟨_, _, ⟨T264, L264, k264, n264⟩, -, X264, ⟨Lc264, hQ264, l264, y264, z264⟩, st264⟩ := X262.virtualBack hx (y := own_y3) (z := own_y3) hown (mvT hZ (own_w hw 13 rfl)) (mvT hZ (own_w hw 14 rfl)) (notFace_of_selects (args := #[]) (mvT hZ (own_w hw 16 rfl))) (mvT hZ (own_w hw 16 rfl)) (mvT hZ (own_w hw 15 rfl)) (by decide) (backOf (W := 0) (own_trunc l Z a0 hw [] b260 b262_o0 (12 : Int32) (0 : Int32) T262.heap n0 Z263 P262_0 P262_1 P262_2 g_b260) hZ (own_w hw 17 rfl) (own_w hw 3 rfl) (by decide) (by decide)) q264a q264c (g := (mkF m 22 #[iv p1, iv p2, iv p3, iv p4, iv 12, rv b260, .unset] [.int 12, .ref b260])) rfl (by rw [hml]; rfl) (Steps.refl _) (argsL := [(.int (12 : Int32))]) (rest := []) (lenOf own_pd_3 rfl) rfl (by show 2 * 0 + _ ≤ _; exact Nat.le_of_eq rfl) (hb hby at_22) (fun _ _ => ⟨rfl, e262, (by decide : 2 + 0 ≤ _), (by decide : 18 + 0 ≤ _)⟩)
    dsimp only [Pt.U, Pt.locs, Pt.cells, Pt.slots] at X264 l264 y264 z264 st264 hQ264
    subst l264 y264 z264
    obtain ⟨rfl, Nq264, Kq264, P264_0, P264_1, P264_2⟩ := hQ264
    have N264 := Fr.app N262 Nq264
    have e264 : T264.heap = T264.heap := rfl
    have Z265 := Nat.le_trans Z263 Kq264.1
    refine own_tr st264 ?_
    show own_E p e below _ T264 (mkF m 25 #[iv p1, iv p2, iv p3, iv p4, iv 12, rv b260, .unset] [])
    refine own_st (fun t k => XS.iload X264.here hx rfl (hb hby at_25) rfl k) ?_
    show own_E p e below _ T264 (mkF m 27 #[iv p1, iv p2, iv p3, iv p4, iv 12, rv b260, .unset] [.int 12])
    refine own_st (fun t k => XS.ifNo X264.here hx rfl (hb hby at_27) rfl (by decide) k) ?_
    show own_E p e below _ T264 (mkF m 30 #[iv p1, iv p2, iv p3, iv p4, iv 12, rv b260, .unset] [])
    refine own_st (fun t k => XS.aload X264.here hx rfl (hb hby at_30) rfl rfl k) ?_
    show own_E p e below _ T264 (mkF m 32 #[iv p1, iv p2, iv p3, iv p4, iv 12, rv b260, .unset] [.ref b260])
    refine own_st (fun t k => XS.iload X264.here hx rfl (hb hby at_32) rfl k) ?_
    show own_E p e below _ T264 (mkF m 34 #[iv p1, iv p2, iv p3, iv p4, iv 12, rv b260, .unset] [.int 12, .ref b260])
    refine own_st (fun t k => XS.iconst X264.here hx rfl (hb hby at_34) k) ?_
    show own_E p e below _ T264 (mkF m 35 #[iv p1, iv p2, iv p3, iv p4, iv 12, rv b260, .unset] [.int 1, .int 12, .ref b260])
    refine own_st (fun t k => XS.isub X264.here hx rfl (hb hby at_35) rfl k) ?_
    show own_E p e below _ T264 (mkF m 36 #[iv p1, iv p2, iv p3, iv p4, iv 12, rv b260, .unset] [.int 11, .ref b260])
    refine own_st (fun t k => XS.iloadN X264.here hx rfl (hb hby at_36) rfl k) ?_
    show own_E p e below _ T264 (mkF m 37 #[iv p1, iv p2, iv p3, iv p4, iv 12, rv b260, .unset] [.int p3, .int 11, .ref b260])
    have B266 := (P262_3.keep Kq264 (ninS (Ne.symm ne_b260_b262_o0) nin0))
    obtain ⟨cq267, kq267, q267a, q267b, q267c⟩ := isOf hZ e264 P264_0
    obtain ⟨_, _, ⟨T267, L267, k267, n267⟩, -, X267, ⟨Lc267, hQ267, l267, y267, z267⟩, st267⟩ := X264.virtualBack hx (y := own_y4) (z := own_y4) hown (mvT hZ (own_w hw 20 rfl)) (mvT hZ (own_w hw 21 rfl)) (notFace_of_selects (args := #[]) (mvT hZ (own_w hw 23 rfl))) (mvT hZ (own_w hw 23 rfl)) (mvT hZ (own_w hw 22 rfl)) (by decide) (backOf (W := 0) (own_set11 l Z a0 hw [] b260 b262_o0 k262_o1 p3 (0 : Int32) (0 : Int32) (0 : Int32) (0 : Int32) (0 : Int32) (0 : Int32) (0 : Int32) (0 : Int32) (0 : Int32) (0 : Int32) (0 : Int32) (0 : Int32) (0 : Int32) (0 : Int32) (0 : Int32) (0 : Int32) T264.heap n0 Z265 P264_1 B266 ne_b260_b262_o0 g_b262_o0) hZ (own_w hw 24 rfl) (own_w hw 3 rfl) (by decide) (by decide)) q267a q267c (g := (mkF m 37 #[iv p1, iv p2, iv p3, iv p4, iv 12, rv b260, .unset] [.int p3, .int 11, .ref b260])) rfl (by rw [hml]; rfl) (Steps.refl _) (argsL := [(.int (11 : Int32)), (.int p3)]) (rest := []) (lenOf own_pd_5 rfl) rfl (by show 2 * 0 + _ ≤ _; exact Nat.le_of_eq rfl) (hb hby at_37) (fun _ _ => ⟨rfl, e264, (by decide : 2 + 0 ≤ _), (by decide : 18 + 0 ≤ _)⟩)
    dsimp only [Pt.U, Pt.locs, Pt.cells, Pt.slots] at X267 l267 y267 z267 st267 hQ267
    subst l267 y267 z267
    obtain ⟨rfl, Nq267, Kq267, P267_0⟩ := hQ267
    have N267 := Fr.app N264 Nq267
    have e267 : T267.heap = T267.heap := rfl
    have Z268 := Nat.le_trans Z265 Kq267.1
    refine own_tr st267 ?_
    show own_E p e below _ T267 (mkF m 40 #[iv p1, iv p2, iv p3, iv p4, iv 12, rv b260, .unset] [])
    refine own_st (fun t k => XS.aload X267.here hx rfl (hb hby at_40) rfl rfl k) ?_
    show own_E p e below _ T267 (mkF m 42 #[iv p1, iv p2, iv p3, iv p4, iv 12, rv b260, .unset] [.ref b260])
    refine own_st (fun t k => XS.iloadN X267.here hx rfl (hb hby at_42) rfl k) ?_
    show own_E p e below _ T267 (mkF m 43 #[iv p1, iv p2, iv p3, iv p4, iv 12, rv b260, .unset] [.int p1, .ref b260])
    have B269 := (P264_0.keep Kq267)
    have B270 := (P264_1.keep Kq267 (ninS ne_b260_b262_o0 nin0))
    have B271 := (P264_2.keep Kq267 (ninS ne_b260_b262_o0 nin0))
    obtain ⟨cq272, kq272, q272a, q272b, q272c⟩ := isOf hZ e267 B269
    obtain ⟨_, _, ⟨T272, L272, k272, n272⟩, -, X272, ⟨Lc272, hQ272, l272, y272, z272⟩, st272⟩ := X267.virtualBack hx (y := own_y5) (z := own_y5) hown (mvT hZ (own_w hw 25 rfl)) (mvT hZ (own_w hw 26 rfl)) (notFace_of_selects (args := #[]) (mvT hZ (own_w hw 28 rfl))) (mvT hZ (own_w hw 28 rfl)) (mvT hZ (own_w hw 27 rfl)) (by decide) (backOf (W := 0) (own_add12 l Z a0 hw [] b260 b262_o0 k262_o1 p1 (0 : Int32) (0 : Int32) (0 : Int32) (0 : Int32) (0 : Int32) (0 : Int32) (0 : Int32) (0 : Int32) (0 : Int32) (0 : Int32) (0 : Int32) p3 (0 : Int32) (0 : Int32) (0 : Int32) (0 : Int32) T267.heap n0 Z268 B269 B270 B271 P267_0 ne_b260_b262_o0 g_b260 g_b262_o0) hZ (own_w hw 29 rfl) (own_w hw 3 rfl) (by decide) (by decide)) q272a q272c (g := (mkF m 43 #[iv p1, iv p2, iv p3, iv p4, iv 12, rv b260, .unset] [.int p1, .ref b260])) rfl (by rw [hml]; rfl) (Steps.refl _) (argsL := [(.int p1)]) (rest := []) (lenOf own_pd_3 rfl) rfl (by show 2 * 0 + _ ≤ _; exact Nat.le_of_eq rfl) (hb hby at_43) (fun _ _ => ⟨rfl, e267, (by decide : 2 + 0 ≤ _), (by decide : 18 + 0 ≤ _)⟩)
    dsimp only [Pt.U, Pt.locs, Pt.cells, Pt.slots] at X272 l272 y272 z272 st272 hQ272
    subst l272 y272 z272
    obtain ⟨rfl, Nq272, Kq272, P272_0, P272_1, P272_2, P272_3⟩ := hQ272
    have N272 := Fr.app N267 Nq272
    have e272 : T272.heap = T272.heap := rfl
    have Z273 := Nat.le_trans Z268 Kq272.1
    refine own_tr st272 ?_
    show own_E p e below _ T272 (mkF m 46 #[iv p1, iv p2, iv p3, iv p4, iv 12, rv b260, .unset] [])
    refine own_st (fun t k => XS.aload X272.here hx rfl (hb hby at_46) rfl rfl k) ?_
    show own_E p e below _ T272 (mkF m 48 #[iv p1, iv p2, iv p3, iv p4, iv 12, rv b260, .unset] [.ref b260])
    obtain ⟨cq274, kq274, q274a, q274b, q274c⟩ := isOf hZ e272 P272_0
    obtain ⟨_, _, ⟨T274, L274, k274, n274⟩, -, X274, ⟨Lc274, hQ274, l274, y274, z274⟩, st274⟩ := X272.virtualBack hx (y := own_y7) (z := own_y7) hown (mvT hZ (own_w hw 30 rfl)) (mvT hZ (own_w hw 31 rfl)) (notFace_of_selects (args := #[]) (mvT hZ (own_w hw 33 rfl))) (mvT hZ (own_w hw 33 rfl)) (mvT hZ (own_w hw 32 rfl)) (by decide) (backOf (W := 0) (own_size l Z a0 hw [] b260 (13 : Int32) T272.heap n0 Z273 P272_2) hZ (own_w hw 34 rfl) (own_w hw 3 rfl) (by decide) (by decide)) q274a q274c (g := (mkF m 48 #[iv p1, iv p2, iv p3, iv p4, iv 12, rv b260, .unset] [.ref b260])) rfl (by rw [hml]; rfl) (Steps.refl _) (argsL := []) (rest := []) (lenOf own_pd_0 rfl) rfl (by show 2 * 0 + _ ≤ _; exact Nat.le_of_eq rfl) (hb hby at_48) (fun _ _ => ⟨rfl, e272, (by decide : 2 + 0 ≤ _), (by decide : 18 + 0 ≤ _)⟩)
    dsimp only [Pt.U, Pt.locs, Pt.cells, Pt.slots] at X274 l274 y274 z274 st274 hQ274
    subst l274 y274 z274
    obtain ⟨hR274, e274, rfl⟩ := hQ274
    have N274 := Fr.app N272 (Fr.nil n0)
    obtain rfl := hR274
    refine own_tr st274 ?_
    show own_E p e below _ T274 (mkF m 51 #[iv p1, iv p2, iv p3, iv p4, iv 12, rv b260, .unset] [.int 13])
    refine own_st (fun t k => XS.iload X274.here hx rfl (hb hby at_51) rfl k) ?_
    show own_E p e below _ T274 (mkF m 53 #[iv p1, iv p2, iv p3, iv p4, iv 12, rv b260, .unset] [.int 12, .int 13])
    refine own_st (fun t k => XS.iconst X274.here hx rfl (hb hby at_53) k) ?_
    show own_E p e below _ T274 (mkF m 54 #[iv p1, iv p2, iv p3, iv p4, iv 12, rv b260, .unset] [.int 1, .int 12, .int 13])
    refine own_st (fun t k => XS.iadd X274.here hx rfl (hb hby at_54) rfl k) ?_
    show own_E p e below _ T274 (mkF m 55 #[iv p1, iv p2, iv p3, iv p4, iv 12, rv b260, .unset] [.int 13, .int 13])
    refine own_st (fun t k => XS.icmpNo X274.here hx rfl (hb hby at_55) rfl (by decide) k) ?_
    show own_E p e below _ T274 (mkF m 58 #[iv p1, iv p2, iv p3, iv p4, iv 12, rv b260, .unset] [])
    refine own_st (fun t k => XS.aload X274.here hx rfl (hb hby at_58) rfl rfl k) ?_
    show own_E p e below _ T274 (mkF m 60 #[iv p1, iv p2, iv p3, iv p4, iv 12, rv b260, .unset] [.ref b260])
    refine own_st (fun t k => XS.iload X274.here hx rfl (hb hby at_60) rfl k) ?_
    show own_E p e below _ T274 (mkF m 62 #[iv p1, iv p2, iv p3, iv p4, iv 12, rv b260, .unset] [.int 12, .ref b260])
    obtain ⟨cq275, kq275, q275a, q275b, q275c⟩ := isOf hZ e274 P272_0
    obtain ⟨_, _, ⟨T275, L275, k275, n275⟩, -, X275, ⟨Lc275, hQ275, l275, y275, z275⟩, st275⟩ := X274.virtualBack hx (y := own_y6) (z := own_y6) hown (mvT hZ (own_w hw 35 rfl)) (mvT hZ (own_w hw 36 rfl)) (notFace_of_selects (args := #[]) (mvT hZ (own_w hw 38 rfl))) (mvT hZ (own_w hw 38 rfl)) (mvT hZ (own_w hw 37 rfl)) (by decide) (backOf (W := 0) (own_get16_12 l Z a0 hw [] b260 b262_o0 k262_o1 (0 : Int32) (0 : Int32) (0 : Int32) (0 : Int32) (0 : Int32) (0 : Int32) (0 : Int32) (0 : Int32) (0 : Int32) (0 : Int32) (0 : Int32) p3 p1 (0 : Int32) (0 : Int32) (0 : Int32) T272.heap n0 Z273 P272_1 P272_3) hZ (own_w hw 39 rfl) (own_w hw 3 rfl) (by decide) (by decide)) q275a q275c (g := (mkF m 62 #[iv p1, iv p2, iv p3, iv p4, iv 12, rv b260, .unset] [.int 12, .ref b260])) rfl (by rw [hml]; rfl) (Steps.refl _) (argsL := [(.int (12 : Int32))]) (rest := []) (lenOf own_pd_2 rfl) rfl (by show 2 * 0 + _ ≤ _; exact Nat.le_of_eq rfl) (hb hby at_62) (fun _ _ => ⟨rfl, e274, (by decide : 2 + 0 ≤ _), (by decide : 18 + 0 ≤ _)⟩)
    dsimp only [Pt.U, Pt.locs, Pt.cells, Pt.slots] at X275 l275 y275 z275 st275 hQ275
    subst l275 y275 z275
    obtain ⟨hR275, e275, rfl⟩ := hQ275
    have N275 := Fr.app N274 (Fr.nil n0)
    obtain rfl := hR275
    refine own_tr st275 ?_
    show own_E p e below _ T275 (mkF m 65 #[iv p1, iv p2, iv p3, iv p4, iv 12, rv b260, .unset] [.int p1])
    refine own_st (fun t k => XS.iloadN X275.here hx rfl (hb hby at_65) rfl k) ?_
    show own_E p e below _ T275 (mkF m 66 #[iv p1, iv p2, iv p3, iv p4, iv 12, rv b260, .unset] [.int p1, .int p1])
    refine own_st (fun t k => XS.icmpNo X275.here hx rfl (hb hby at_66) rfl (teq rfl).2 k) ?_
    show own_E p e below _ T275 (mkF m 69 #[iv p1, iv p2, iv p3, iv p4, iv 12, rv b260, .unset] [])
    refine own_st (fun t k => XS.iconst X275.here hx rfl (hb hby at_69) k) ?_
    show own_E p e below _ T275 (mkF m 70 #[iv p1, iv p2, iv p3, iv p4, iv 12, rv b260, .unset] [.int 1])
    refine own_st (fun t k => XS.goto X275.here hx rfl (pc0 := 70) (pc' := 74) rfl (hb hby at_70) (by decide) (by decide) k) ?_
    show own_E p e below _ T275 (mkF m 74 #[iv p1, iv p2, iv p3, iv p4, iv 12, rv b260, .unset] [.int 1])
    refine own_st (fun t k => XS.istore X275.here hx rfl (hb hby at_74) rfl (l' := #[iv p1, iv p2, iv p3, iv p4, iv 12, rv b260, iv 1]) rfl k) ?_
    show own_E p e below _ T275 (mkF m 76 #[iv p1, iv p2, iv p3, iv p4, iv 12, rv b260, iv 1] [])
    refine own_st (fun t k => XS.aload X275.here hx rfl (hb hby at_76) rfl rfl k) ?_
    show own_E p e below _ T275 (mkF m 78 #[iv p1, iv p2, iv p3, iv p4, iv 12, rv b260, iv 1] [.ref b260])
    refine own_st (fun t k => XS.iloadN X275.here hx rfl (hb hby at_78) rfl k) ?_
    show own_E p e below _ T275 (mkF m 79 #[iv p1, iv p2, iv p3, iv p4, iv 12, rv b260, iv 1] [.int p2, .ref b260])
    obtain ⟨cq276, kq276, q276a, q276b, q276c⟩ := isOf hZ e275 P272_0
    obtain ⟨_, _, ⟨T276, L276, k276, n276⟩, -, X276, ⟨Lc276, hQ276, l276, y276, z276⟩, st276⟩ := X275.virtualBack hx (y := own_y5) (z := own_y5) hown (mvT hZ (own_w hw 25 rfl)) (mvT hZ (own_w hw 26 rfl)) (notFace_of_selects (args := #[]) (mvT hZ (own_w hw 28 rfl))) (mvT hZ (own_w hw 28 rfl)) (mvT hZ (own_w hw 27 rfl)) (by decide) (backOf (W := 0) (own_add13 l Z a0 hw [] b260 b262_o0 k262_o1 p2 (0 : Int32) (0 : Int32) (0 : Int32) (0 : Int32) (0 : Int32) (0 : Int32) (0 : Int32) (0 : Int32) (0 : Int32) (0 : Int32) (0 : Int32) p3 p1 (0 : Int32) (0 : Int32) (0 : Int32) T272.heap n0 Z273 P272_0 P272_1 P272_2 P272_3 ne_b260_b262_o0 g_b260 g_b262_o0) hZ (own_w hw 29 rfl) (own_w hw 3 rfl) (by decide) (by decide)) q276a q276c (g := (mkF m 79 #[iv p1, iv p2, iv p3, iv p4, iv 12, rv b260, iv 1] [.int p2, .ref b260])) rfl (by rw [hml]; rfl) (Steps.refl _) (argsL := [(.int p2)]) (rest := []) (lenOf own_pd_3 rfl) rfl (by show 2 * 0 + _ ≤ _; exact Nat.le_of_eq rfl) (hb hby at_79) (fun _ _ => ⟨rfl, e275, (by decide : 2 + 0 ≤ _), (by decide : 18 + 0 ≤ _)⟩)
    dsimp only [Pt.U, Pt.locs, Pt.cells, Pt.slots] at X276 l276 y276 z276 st276 hQ276
    subst l276 y276 z276
    obtain ⟨rfl, Nq276, Kq276, P276_0, P276_1, P276_2, P276_3⟩ := hQ276
    have N276 := Fr.app N275 Nq276
    have e276 : T276.heap = T276.heap := rfl
    have Z277 := Nat.le_trans Z273 Kq276.1
    refine own_tr st276 ?_
    show own_E p e below _ T276 (mkF m 82 #[iv p1, iv p2, iv p3, iv p4, iv 12, rv b260, iv 1] [])
    refine own_st (fun t k => XS.iload X276.here hx rfl (hb hby at_82) rfl k) ?_
    show own_E p e below _ T276 (mkF m 84 #[iv p1, iv p2, iv p3, iv p4, iv 12, rv b260, iv 1] [.int 1])
    refine own_st (fun t k => XS.ifNo X276.here hx rfl (hb hby at_84) rfl (by decide) k) ?_
    show own_E p e below _ T276 (mkF m 87 #[iv p1, iv p2, iv p3, iv p4, iv 12, rv b260, iv 1] [])
    refine own_st (fun t k => XS.aload X276.here hx rfl (hb hby at_87) rfl rfl k) ?_
    show own_E p e below _ T276 (mkF m 89 #[iv p1, iv p2, iv p3, iv p4, iv 12, rv b260, iv 1] [.ref b260])
    obtain ⟨cq278, kq278, q278a, q278b, q278c⟩ := isOf hZ e276 P276_0
    obtain ⟨_, _, ⟨T278, L278, k278, n278⟩, -, X278, ⟨Lc278, hQ278, l278, y278, z278⟩, st278⟩ := X276.virtualBack hx (y := own_y7) (z := own_y7) hown (mvT hZ (own_w hw 30 rfl)) (mvT hZ (own_w hw 31 rfl)) (notFace_of_selects (args := #[]) (mvT hZ (own_w hw 33 rfl))) (mvT hZ (own_w hw 33 rfl)) (mvT hZ (own_w hw 32 rfl)) (by decide) (backOf (W := 0) (own_size l Z a0 hw [] b260 (14 : Int32) T276.heap n0 Z277 P276_2) hZ (own_w hw 34 rfl) (own_w hw 3 rfl) (by decide) (by decide)) q278a q278c (g := (mkF m 89 #[iv p1, iv p2, iv p3, iv p4, iv 12, rv b260, iv 1] [.ref b260])) rfl (by rw [hml]; rfl) (Steps.refl _) (argsL := []) (rest := []) (lenOf own_pd_0 rfl) rfl (by show 2 * 0 + _ ≤ _; exact Nat.le_of_eq rfl) (hb hby at_89) (fun _ _ => ⟨rfl, e276, (by decide : 2 + 0 ≤ _), (by decide : 18 + 0 ≤ _)⟩)
    dsimp only [Pt.U, Pt.locs, Pt.cells, Pt.slots] at X278 l278 y278 z278 st278 hQ278
    subst l278 y278 z278
    obtain ⟨hR278, e278, rfl⟩ := hQ278
    have N278 := Fr.app N276 (Fr.nil n0)
    obtain rfl := hR278
    refine own_tr st278 ?_
    show own_E p e below _ T278 (mkF m 92 #[iv p1, iv p2, iv p3, iv p4, iv 12, rv b260, iv 1] [.int 14])
    refine own_st (fun t k => XS.iload X278.here hx rfl (hb hby at_92) rfl k) ?_
    show own_E p e below _ T278 (mkF m 94 #[iv p1, iv p2, iv p3, iv p4, iv 12, rv b260, iv 1] [.int 12, .int 14])
    refine own_st (fun t k => XS.iconst X278.here hx rfl (hb hby at_94) k) ?_
    show own_E p e below _ T278 (mkF m 95 #[iv p1, iv p2, iv p3, iv p4, iv 12, rv b260, iv 1] [.int 2, .int 12, .int 14])
    refine own_st (fun t k => XS.iadd X278.here hx rfl (hb hby at_95) rfl k) ?_
    show own_E p e below _ T278 (mkF m 96 #[iv p1, iv p2, iv p3, iv p4, iv 12, rv b260, iv 1] [.int 14, .int 14])
    refine own_st (fun t k => XS.icmpNo X278.here hx rfl (hb hby at_96) rfl (by decide) k) ?_
    show own_E p e below _ T278 (mkF m 99 #[iv p1, iv p2, iv p3, iv p4, iv 12, rv b260, iv 1] [])
    refine own_st (fun t k => XS.aload X278.here hx rfl (hb hby at_99) rfl rfl k) ?_
    show own_E p e below _ T278 (mkF m 101 #[iv p1, iv p2, iv p3, iv p4, iv 12, rv b260, iv 1] [.ref b260])
    refine own_st (fun t k => XS.iload X278.here hx rfl (hb hby at_101) rfl k) ?_
    show own_E p e below _ T278 (mkF m 103 #[iv p1, iv p2, iv p3, iv p4, iv 12, rv b260, iv 1] [.int 12, .ref b260])
    obtain ⟨cq279, kq279, q279a, q279b, q279c⟩ := isOf hZ e278 P276_0
    obtain ⟨_, _, ⟨T279, L279, k279, n279⟩, -, X279, ⟨Lc279, hQ279, l279, y279, z279⟩, st279⟩ := X278.virtualBack hx (y := own_y6) (z := own_y6) hown (mvT hZ (own_w hw 35 rfl)) (mvT hZ (own_w hw 36 rfl)) (notFace_of_selects (args := #[]) (mvT hZ (own_w hw 38 rfl))) (mvT hZ (own_w hw 38 rfl)) (mvT hZ (own_w hw 37 rfl)) (by decide) (backOf (W := 0) (own_get16_12 l Z a0 hw [] b260 b262_o0 k262_o1 (0 : Int32) (0 : Int32) (0 : Int32) (0 : Int32) (0 : Int32) (0 : Int32) (0 : Int32) (0 : Int32) (0 : Int32) (0 : Int32) (0 : Int32) p3 p1 p2 (0 : Int32) (0 : Int32) T276.heap n0 Z277 P276_1 P276_3) hZ (own_w hw 39 rfl) (own_w hw 3 rfl) (by decide) (by decide)) q279a q279c (g := (mkF m 103 #[iv p1, iv p2, iv p3, iv p4, iv 12, rv b260, iv 1] [.int 12, .ref b260])) rfl (by rw [hml]; rfl) (Steps.refl _) (argsL := [(.int (12 : Int32))]) (rest := []) (lenOf own_pd_2 rfl) rfl (by show 2 * 0 + _ ≤ _; exact Nat.le_of_eq rfl) (hb hby at_103) (fun _ _ => ⟨rfl, e278, (by decide : 2 + 0 ≤ _), (by decide : 18 + 0 ≤ _)⟩)
    dsimp only [Pt.U, Pt.locs, Pt.cells, Pt.slots] at X279 l279 y279 z279 st279 hQ279
    subst l279 y279 z279
    obtain ⟨hR279, e279, rfl⟩ := hQ279
    have N279 := Fr.app N278 (Fr.nil n0)
    obtain rfl := hR279
    refine own_tr st279 ?_
    show own_E p e below _ T279 (mkF m 106 #[iv p1, iv p2, iv p3, iv p4, iv 12, rv b260, iv 1] [.int p1])
    refine own_st (fun t k => XS.iloadN X279.here hx rfl (hb hby at_106) rfl k) ?_
    show own_E p e below _ T279 (mkF m 107 #[iv p1, iv p2, iv p3, iv p4, iv 12, rv b260, iv 1] [.int p1, .int p1])
    refine own_st (fun t k => XS.icmpNo X279.here hx rfl (hb hby at_107) rfl (teq rfl).2 k) ?_
    show own_E p e below _ T279 (mkF m 110 #[iv p1, iv p2, iv p3, iv p4, iv 12, rv b260, iv 1] [])
    refine own_st (fun t k => XS.aload X279.here hx rfl (hb hby at_110) rfl rfl k) ?_
    show own_E p e below _ T279 (mkF m 112 #[iv p1, iv p2, iv p3, iv p4, iv 12, rv b260, iv 1] [.ref b260])
    refine own_st (fun t k => XS.iload X279.here hx rfl (hb hby at_112) rfl k) ?_
    show own_E p e below _ T279 (mkF m 114 #[iv p1, iv p2, iv p3, iv p4, iv 12, rv b260, iv 1] [.int 12, .ref b260])
    refine own_st (fun t k => XS.iconst X279.here hx rfl (hb hby at_114) k) ?_
    show own_E p e below _ T279 (mkF m 115 #[iv p1, iv p2, iv p3, iv p4, iv 12, rv b260, iv 1] [.int 1, .int 12, .ref b260])
    refine own_st (fun t k => XS.iadd X279.here hx rfl (hb hby at_115) rfl k) ?_
    show own_E p e below _ T279 (mkF m 116 #[iv p1, iv p2, iv p3, iv p4, iv 12, rv b260, iv 1] [.int 13, .ref b260])
    obtain ⟨cq280, kq280, q280a, q280b, q280c⟩ := isOf hZ e279 P276_0
    obtain ⟨_, _, ⟨T280, L280, k280, n280⟩, -, X280, ⟨Lc280, hQ280, l280, y280, z280⟩, st280⟩ := X279.virtualBack hx (y := own_y6) (z := own_y6) hown (mvT hZ (own_w hw 35 rfl)) (mvT hZ (own_w hw 36 rfl)) (notFace_of_selects (args := #[]) (mvT hZ (own_w hw 38 rfl))) (mvT hZ (own_w hw 38 rfl)) (mvT hZ (own_w hw 37 rfl)) (by decide) (backOf (W := 0) (own_get16_13 l Z a0 hw [] b260 b262_o0 k262_o1 (0 : Int32) (0 : Int32) (0 : Int32) (0 : Int32) (0 : Int32) (0 : Int32) (0 : Int32) (0 : Int32) (0 : Int32) (0 : Int32) (0 : Int32) p3 p1 p2 (0 : Int32) (0 : Int32) T276.heap n0 Z277 P276_1 P276_3) hZ (own_w hw 39 rfl) (own_w hw 3 rfl) (by decide) (by decide)) q280a q280c (g := (mkF m 116 #[iv p1, iv p2, iv p3, iv p4, iv 12, rv b260, iv 1] [.int 13, .ref b260])) rfl (by rw [hml]; rfl) (Steps.refl _) (argsL := [(.int (13 : Int32))]) (rest := []) (lenOf own_pd_2 rfl) rfl (by show 2 * 0 + _ ≤ _; exact Nat.le_of_eq rfl) (hb hby at_116) (fun _ _ => ⟨rfl, e279, (by decide : 2 + 0 ≤ _), (by decide : 18 + 0 ≤ _)⟩)
    dsimp only [Pt.U, Pt.locs, Pt.cells, Pt.slots] at X280 l280 y280 z280 st280 hQ280
    subst l280 y280 z280
    obtain ⟨hR280, e280, rfl⟩ := hQ280
    have N280 := Fr.app N279 (Fr.nil n0)
    obtain rfl := hR280
    refine own_tr st280 ?_
    show own_E p e below _ T280 (mkF m 119 #[iv p1, iv p2, iv p3, iv p4, iv 12, rv b260, iv 1] [.int p2])
    refine own_st (fun t k => XS.iloadN X280.here hx rfl (hb hby at_119) rfl k) ?_
    show own_E p e below _ T280 (mkF m 120 #[iv p1, iv p2, iv p3, iv p4, iv 12, rv b260, iv 1] [.int p2, .int p2])
    refine own_st (fun t k => XS.icmpNo X280.here hx rfl (hb hby at_120) rfl (teq rfl).2 k) ?_
    show own_E p e below _ T280 (mkF m 123 #[iv p1, iv p2, iv p3, iv p4, iv 12, rv b260, iv 1] [])
    refine own_st (fun t k => XS.iconst X280.here hx rfl (hb hby at_123) k) ?_
    show own_E p e below _ T280 (mkF m 124 #[iv p1, iv p2, iv p3, iv p4, iv 12, rv b260, iv 1] [.int 1])
    refine own_st (fun t k => XS.goto X280.here hx rfl (pc0 := 124) (pc' := 128) rfl (hb hby at_124) (by decide) (by decide) k) ?_
    show own_E p e below _ T280 (mkF m 128 #[iv p1, iv p2, iv p3, iv p4, iv 12, rv b260, iv 1] [.int 1])
    refine own_st (fun t k => XS.istore X280.here hx rfl (hb hby at_128) rfl (l' := #[iv p1, iv p2, iv p3, iv p4, iv 12, rv b260, iv 1]) rfl k) ?_
    show own_E p e below _ T280 (mkF m 130 #[iv p1, iv p2, iv p3, iv p4, iv 12, rv b260, iv 1] [])
    refine own_st (fun t k => XS.iload X280.here hx rfl (hb hby at_130) rfl k) ?_
    show own_E p e below _ T280 (mkF m 132 #[iv p1, iv p2, iv p3, iv p4, iv 12, rv b260, iv 1] [.int 12])
    refine own_st (fun t k => XS.ifNo X280.here hx rfl (hb hby at_132) rfl (by decide) k) ?_
    show own_E p e below _ T280 (mkF m 135 #[iv p1, iv p2, iv p3, iv p4, iv 12, rv b260, iv 1] [])
    refine own_st (fun t k => XS.iload X280.here hx rfl (hb hby at_135) rfl k) ?_
    show own_E p e below _ T280 (mkF m 137 #[iv p1, iv p2, iv p3, iv p4, iv 12, rv b260, iv 1] [.int 1])
    refine own_st (fun t k => XS.ifNo X280.here hx rfl (hb hby at_137) rfl (by decide) k) ?_
    show own_E p e below _ T280 (mkF m 140 #[iv p1, iv p2, iv p3, iv p4, iv 12, rv b260, iv 1] [])
    refine own_st (fun t k => XS.aload X280.here hx rfl (hb hby at_140) rfl rfl k) ?_
    show own_E p e below _ T280 (mkF m 142 #[iv p1, iv p2, iv p3, iv p4, iv 12, rv b260, iv 1] [.ref b260])
    refine own_st (fun t k => XS.iload X280.here hx rfl (hb hby at_142) rfl k) ?_
    show own_E p e below _ T280 (mkF m 144 #[iv p1, iv p2, iv p3, iv p4, iv 12, rv b260, iv 1] [.int 12, .ref b260])
    refine own_st (fun t k => XS.iconst X280.here hx rfl (hb hby at_144) k) ?_
    show own_E p e below _ T280 (mkF m 145 #[iv p1, iv p2, iv p3, iv p4, iv 12, rv b260, iv 1] [.int 1, .int 12, .ref b260])
    refine own_st (fun t k => XS.isub X280.here hx rfl (hb hby at_145) rfl k) ?_
    show own_E p e below _ T280 (mkF m 146 #[iv p1, iv p2, iv p3, iv p4, iv 12, rv b260, iv 1] [.int 11, .ref b260])
    obtain ⟨cq281, kq281, q281a, q281b, q281c⟩ := isOf hZ e280 P276_0
    obtain ⟨_, _, ⟨T281, L281, k281, n281⟩, -, X281, ⟨Lc281, hQ281, l281, y281, z281⟩, st281⟩ := X280.virtualBack hx (y := own_y6) (z := own_y6) hown (mvT hZ (own_w hw 35 rfl)) (mvT hZ (own_w hw 36 rfl)) (notFace_of_selects (args := #[]) (mvT hZ (own_w hw 38 rfl))) (mvT hZ (own_w hw 38 rfl)) (mvT hZ (own_w hw 37 rfl)) (by decide) (backOf (W := 0) (own_get16_11 l Z a0 hw [] b260 b262_o0 k262_o1 (0 : Int32) (0 : Int32) (0 : Int32) (0 : Int32) (0 : Int32) (0 : Int32) (0 : Int32) (0 : Int32) (0 : Int32) (0 : Int32) (0 : Int32) p3 p1 p2 (0 : Int32) (0 : Int32) T276.heap n0 Z277 P276_1 P276_3) hZ (own_w hw 39 rfl) (own_w hw 3 rfl) (by decide) (by decide)) q281a q281c (g := (mkF m 146 #[iv p1, iv p2, iv p3, iv p4, iv 12, rv b260, iv 1] [.int 11, .ref b260])) rfl (by rw [hml]; rfl) (Steps.refl _) (argsL := [(.int (11 : Int32))]) (rest := []) (lenOf own_pd_2 rfl) rfl (by show 2 * 0 + _ ≤ _; exact Nat.le_of_eq rfl) (hb hby at_146) (fun _ _ => ⟨rfl, e280, (by decide : 2 + 0 ≤ _), (by decide : 18 + 0 ≤ _)⟩)
    dsimp only [Pt.U, Pt.locs, Pt.cells, Pt.slots] at X281 l281 y281 z281 st281 hQ281
    subst l281 y281 z281
    obtain ⟨hR281, e281, rfl⟩ := hQ281
    have N281 := Fr.app N280 (Fr.nil n0)
    obtain rfl := hR281
    refine own_tr st281 ?_
    show own_E p e below _ T281 (mkF m 149 #[iv p1, iv p2, iv p3, iv p4, iv 12, rv b260, iv 1] [.int p3])
    refine own_st (fun t k => XS.iloadN X281.here hx rfl (hb hby at_149) rfl k) ?_
    show own_E p e below _ T281 (mkF m 150 #[iv p1, iv p2, iv p3, iv p4, iv 12, rv b260, iv 1] [.int p3, .int p3])
    refine own_st (fun t k => XS.icmpNo X281.here hx rfl (hb hby at_150) rfl (teq rfl).2 k) ?_
    show own_E p e below _ T281 (mkF m 153 #[iv p1, iv p2, iv p3, iv p4, iv 12, rv b260, iv 1] [])
    refine own_st (fun t k => XS.iconst X281.here hx rfl (hb hby at_153) k) ?_
    show own_E p e below _ T281 (mkF m 154 #[iv p1, iv p2, iv p3, iv p4, iv 12, rv b260, iv 1] [.int 1])
    refine own_st (fun t k => XS.goto X281.here hx rfl (pc0 := 154) (pc' := 158) rfl (hb hby at_154) (by decide) (by decide) k) ?_
    show own_E p e below _ T281 (mkF m 158 #[iv p1, iv p2, iv p3, iv p4, iv 12, rv b260, iv 1] [.int 1])
    refine own_st (fun t k => XS.istore X281.here hx rfl (hb hby at_158) rfl (l' := #[iv p1, iv p2, iv p3, iv p4, iv 12, rv b260, iv 1]) rfl k) ?_
    show own_E p e below _ T281 (mkF m 160 #[iv p1, iv p2, iv p3, iv p4, iv 12, rv b260, iv 1] [])
    refine own_st (fun t k => XS.iload X281.here hx rfl (hb hby at_160) rfl k) ?_
    show own_E p e below _ T281 (mkF m 162 #[iv p1, iv p2, iv p3, iv p4, iv 12, rv b260, iv 1] [.int 1])
    refine own_retS X281 hx Bd.notSynchronized Bd.returns rfl (by decide) (hb hby at_162) (by decide) (by decide) ?_
    exact ⟨rfl, N281⟩
  · rw [hs1]
    show own_E p e below _ s₁ (mkF m 9 #[iv p1, iv p2, iv p3, iv p4, iv 13, .unset, .unset] [])
    obtain ⟨T282, h282, X282, e282, E282, A282, D282, -, st282⟩ := newO X0 hx hZ hown (own_w hw 1 rfl) (own_w hw 2 rfl) (own_w hw 3 rfl) e0 (g := (mkF m 9 #[iv p1, iv p2, iv p3, iv p4, iv 13, .unset, .unset] [])) rfl (hb hby at_9) (by decide) (by decide)
    obtain ⟨b282, g282⟩ : ∃ z, z = h0.size := ⟨_, rfl⟩
    rw [← g282] at A282 D282 st282
    have g_b282 : n0 ≤ b282 := Nat.le_trans Z0 (Nat.le_of_eq g282.symm)
    have Z283 := Nat.le_trans Z0 E282.1
    have F_values_b282 : Fld Z h282 b282 "com/example/kalchas/kalchas/IntList" "values" "[I" .null := D282 (Or.inl (own_w hw 12 rfl)) (ty := (.array .int)) (by decide)
    have F_size_b282 : Fld Z h282 b282 "com/example/kalchas/kalchas/IntList" "size" "I" (.int (0 : Int32)) := D282 (Or.inl (own_w hw 19 rfl)) (ty := .int) (by decide)
    refine own_st st282 ?_
    show own_E p e below _ T282 (mkF m 12 #[iv p1, iv p2, iv p3, iv p4, iv 13, .unset, .unset] [.ref b282])
    refine own_st (fun t k => XS.dup X282.here hx rfl (hb hby at_12) rfl rfl k) ?_
    show own_E p e below _ T282 (mkF m 13 #[iv p1, iv p2, iv p3, iv p4, iv 13, .unset, .unset] [.ref b282, .ref b282])
    obtain ⟨_, _, ⟨T284, L284, k284, n284⟩, -, X284, ⟨Lc284, hQ284, l284, y284, z284⟩, st284⟩ := X282.specialBack hx (y := own_y2) rfl hown (mvT hZ (own_w hw 4 rfl)) (mvT hZ (own_w hw 5 rfl)) (mvT hZ (own_w hw 6 rfl)) (by decide) (backOf (W := 1) (own_init l Z a0 hw [] b282 h282 n0 Z283 A282 F_values_b282 F_size_b282 g_b282) hZ (own_w hw 6 rfl) (own_w hw 3 rfl) (by decide) (by decide)) (g := (mkF m 13 #[iv p1, iv p2, iv p3, iv p4, iv 13, .unset, .unset] [.ref b282, .ref b282])) rfl (by rw [hml]; rfl) (Steps.refl _) (a := b282) (argsL := []) (rest := [(.ref b282)]) (lenOf own_pd_1 rfl) rfl (by show 2 * 0 + _ ≤ _; exact Nat.le_of_eq rfl) (hb hby at_13) (fun _ _ => ⟨rfl, e282, (by decide : 1 + 1 ≤ _), (by decide : 2 + 16 ≤ _)⟩)
    dsimp only [Pt.U, Pt.locs, Pt.cells, Pt.slots] at X284 l284 y284 z284 st284 hQ284
    subst l284 y284 z284
    obtain ⟨b284_o0, k284_o1, rfl, Nq284, Kq284, sz284_0, P284_0, P284_1, P284_2, P284_3⟩ := hQ284
    have N284 := Fr.app (Fr.nil n0) Nq284
    have ne_b282_b284_o0 : b282 ≠ b284_o0 := Nat.ne_of_lt (Nat.lt_of_lt_of_le A282.lt sz284_0)
    have g_b284_o0 : n0 ≤ b284_o0 := Nat.le_trans Z283 sz284_0
    have e284 : T284.heap = T284.heap := rfl
    have Z285 := Nat.le_trans Z283 Kq284.1
    refine own_tr st284 ?_
    show own_E p e below _ T284 (mkF m 16 #[iv p1, iv p2, iv p3, iv p4, iv 13, .unset, .unset] [.ref b282])
    refine own_st (fun t k => XS.astore X284.here hx rfl (hb hby at_16) rfl rfl (l' := #[iv p1, iv p2, iv p3, iv p4, iv 13, rv b282, .unset]) rfl k) ?_
    show own_E p e below _ T284 (mkF m 18 #[iv p1, iv p2, iv p3, iv p4, iv 13, rv b282, .unset] [])
    refine own_st (fun t k => XS.aload X284.here hx rfl (hb hby at_18) rfl rfl k) ?_
    show own_E p e below _ T284 (mkF m 20 #[iv p1, iv p2, iv p3, iv p4, iv 13, rv b282, .unset] [.ref b282])
    refine own_st (fun t k => XS.iload X284.here hx rfl (hb hby at_20) rfl k) ?_
    show own_E p e below _ T284 (mkF m 22 #[iv p1, iv p2, iv p3, iv p4, iv 13, rv b282, .unset] [.int 13, .ref b282])
    obtain ⟨cq286, kq286, q286a, q286b, q286c⟩ := isOf hZ e284 P284_0
    obtain ⟨_, _, ⟨T286, L286, k286, n286⟩, -, X286, ⟨Lc286, hQ286, l286, y286, z286⟩, st286⟩ := X284.virtualBack hx (y := own_y3) (z := own_y3) hown (mvT hZ (own_w hw 13 rfl)) (mvT hZ (own_w hw 14 rfl)) (notFace_of_selects (args := #[]) (mvT hZ (own_w hw 16 rfl))) (mvT hZ (own_w hw 16 rfl)) (mvT hZ (own_w hw 15 rfl)) (by decide) (backOf (W := 0) (own_trunc l Z a0 hw [] b282 b284_o0 (13 : Int32) (0 : Int32) T284.heap n0 Z285 P284_0 P284_1 P284_2 g_b282) hZ (own_w hw 17 rfl) (own_w hw 3 rfl) (by decide) (by decide)) q286a q286c (g := (mkF m 22 #[iv p1, iv p2, iv p3, iv p4, iv 13, rv b282, .unset] [.int 13, .ref b282])) rfl (by rw [hml]; rfl) (Steps.refl _) (argsL := [(.int (13 : Int32))]) (rest := []) (lenOf own_pd_3 rfl) rfl (by show 2 * 0 + _ ≤ _; exact Nat.le_of_eq rfl) (hb hby at_22) (fun _ _ => ⟨rfl, e284, (by decide : 2 + 0 ≤ _), (by decide : 18 + 0 ≤ _)⟩)
    dsimp only [Pt.U, Pt.locs, Pt.cells, Pt.slots] at X286 l286 y286 z286 st286 hQ286
    subst l286 y286 z286
    obtain ⟨rfl, Nq286, Kq286, P286_0, P286_1, P286_2⟩ := hQ286
    have N286 := Fr.app N284 Nq286
    have e286 : T286.heap = T286.heap := rfl
    have Z287 := Nat.le_trans Z285 Kq286.1
    refine own_tr st286 ?_
    show own_E p e below _ T286 (mkF m 25 #[iv p1, iv p2, iv p3, iv p4, iv 13, rv b282, .unset] [])
    refine own_st (fun t k => XS.iload X286.here hx rfl (hb hby at_25) rfl k) ?_
    show own_E p e below _ T286 (mkF m 27 #[iv p1, iv p2, iv p3, iv p4, iv 13, rv b282, .unset] [.int 13])
    refine own_st (fun t k => XS.ifNo X286.here hx rfl (hb hby at_27) rfl (by decide) k) ?_
    show own_E p e below _ T286 (mkF m 30 #[iv p1, iv p2, iv p3, iv p4, iv 13, rv b282, .unset] [])
    refine own_st (fun t k => XS.aload X286.here hx rfl (hb hby at_30) rfl rfl k) ?_
    show own_E p e below _ T286 (mkF m 32 #[iv p1, iv p2, iv p3, iv p4, iv 13, rv b282, .unset] [.ref b282])
    refine own_st (fun t k => XS.iload X286.here hx rfl (hb hby at_32) rfl k) ?_
    show own_E p e below _ T286 (mkF m 34 #[iv p1, iv p2, iv p3, iv p4, iv 13, rv b282, .unset] [.int 13, .ref b282])
    refine own_st (fun t k => XS.iconst X286.here hx rfl (hb hby at_34) k) ?_
    show own_E p e below _ T286 (mkF m 35 #[iv p1, iv p2, iv p3, iv p4, iv 13, rv b282, .unset] [.int 1, .int 13, .ref b282])
    refine own_st (fun t k => XS.isub X286.here hx rfl (hb hby at_35) rfl k) ?_
    show own_E p e below _ T286 (mkF m 36 #[iv p1, iv p2, iv p3, iv p4, iv 13, rv b282, .unset] [.int 12, .ref b282])
    refine own_st (fun t k => XS.iloadN X286.here hx rfl (hb hby at_36) rfl k) ?_
    show own_E p e below _ T286 (mkF m 37 #[iv p1, iv p2, iv p3, iv p4, iv 13, rv b282, .unset] [.int p3, .int 12, .ref b282])
    have B288 := (P284_3.keep Kq286 (ninS (Ne.symm ne_b282_b284_o0) nin0))
    obtain ⟨cq289, kq289, q289a, q289b, q289c⟩ := isOf hZ e286 P286_0
    obtain ⟨_, _, ⟨T289, L289, k289, n289⟩, -, X289, ⟨Lc289, hQ289, l289, y289, z289⟩, st289⟩ := X286.virtualBack hx (y := own_y4) (z := own_y4) hown (mvT hZ (own_w hw 20 rfl)) (mvT hZ (own_w hw 21 rfl)) (notFace_of_selects (args := #[]) (mvT hZ (own_w hw 23 rfl))) (mvT hZ (own_w hw 23 rfl)) (mvT hZ (own_w hw 22 rfl)) (by decide) (backOf (W := 0) (own_set12 l Z a0 hw [] b282 b284_o0 k284_o1 p3 (0 : Int32) (0 : Int32) (0 : Int32) (0 : Int32) (0 : Int32) (0 : Int32) (0 : Int32) (0 : Int32) (0 : Int32) (0 : Int32) (0 : Int32) (0 : Int32) (0 : Int32) (0 : Int32) (0 : Int32) (0 : Int32) T286.heap n0 Z287 P286_1 B288 ne_b282_b284_o0 g_b284_o0) hZ (own_w hw 24 rfl) (own_w hw 3 rfl) (by decide) (by decide)) q289a q289c (g := (mkF m 37 #[iv p1, iv p2, iv p3, iv p4, iv 13, rv b282, .unset] [.int p3, .int 12, .ref b282])) rfl (by rw [hml]; rfl) (Steps.refl _) (argsL := [(.int (12 : Int32)), (.int p3)]) (rest := []) (lenOf own_pd_5 rfl) rfl (by show 2 * 0 + _ ≤ _; exact Nat.le_of_eq rfl) (hb hby at_37) (fun _ _ => ⟨rfl, e286, (by decide : 2 + 0 ≤ _), (by decide : 18 + 0 ≤ _)⟩)
    dsimp only [Pt.U, Pt.locs, Pt.cells, Pt.slots] at X289 l289 y289 z289 st289 hQ289
    subst l289 y289 z289
    obtain ⟨rfl, Nq289, Kq289, P289_0⟩ := hQ289
    have N289 := Fr.app N286 Nq289
    have e289 : T289.heap = T289.heap := rfl
    have Z290 := Nat.le_trans Z287 Kq289.1
    refine own_tr st289 ?_
    show own_E p e below _ T289 (mkF m 40 #[iv p1, iv p2, iv p3, iv p4, iv 13, rv b282, .unset] [])
    refine own_st (fun t k => XS.aload X289.here hx rfl (hb hby at_40) rfl rfl k) ?_
    show own_E p e below _ T289 (mkF m 42 #[iv p1, iv p2, iv p3, iv p4, iv 13, rv b282, .unset] [.ref b282])
    refine own_st (fun t k => XS.iloadN X289.here hx rfl (hb hby at_42) rfl k) ?_
    show own_E p e below _ T289 (mkF m 43 #[iv p1, iv p2, iv p3, iv p4, iv 13, rv b282, .unset] [.int p1, .ref b282])
    have B291 := (P286_0.keep Kq289)
    have B292 := (P286_1.keep Kq289 (ninS ne_b282_b284_o0 nin0))
    have B293 := (P286_2.keep Kq289 (ninS ne_b282_b284_o0 nin0))
    obtain ⟨cq294, kq294, q294a, q294b, q294c⟩ := isOf hZ e289 B291
    obtain ⟨_, _, ⟨T294, L294, k294, n294⟩, -, X294, ⟨Lc294, hQ294, l294, y294, z294⟩, st294⟩ := X289.virtualBack hx (y := own_y5) (z := own_y5) hown (mvT hZ (own_w hw 25 rfl)) (mvT hZ (own_w hw 26 rfl)) (notFace_of_selects (args := #[]) (mvT hZ (own_w hw 28 rfl))) (mvT hZ (own_w hw 28 rfl)) (mvT hZ (own_w hw 27 rfl)) (by decide) (backOf (W := 0) (own_add13 l Z a0 hw [] b282 b284_o0 k284_o1 p1 (0 : Int32) (0 : Int32) (0 : Int32) (0 : Int32) (0 : Int32) (0 : Int32) (0 : Int32) (0 : Int32) (0 : Int32) (0 : Int32) (0 : Int32) (0 : Int32) p3 (0 : Int32) (0 : Int32) (0 : Int32) T289.heap n0 Z290 B291 B292 B293 P289_0 ne_b282_b284_o0 g_b282 g_b284_o0) hZ (own_w hw 29 rfl) (own_w hw 3 rfl) (by decide) (by decide)) q294a q294c (g := (mkF m 43 #[iv p1, iv p2, iv p3, iv p4, iv 13, rv b282, .unset] [.int p1, .ref b282])) rfl (by rw [hml]; rfl) (Steps.refl _) (argsL := [(.int p1)]) (rest := []) (lenOf own_pd_3 rfl) rfl (by show 2 * 0 + _ ≤ _; exact Nat.le_of_eq rfl) (hb hby at_43) (fun _ _ => ⟨rfl, e289, (by decide : 2 + 0 ≤ _), (by decide : 18 + 0 ≤ _)⟩)
    dsimp only [Pt.U, Pt.locs, Pt.cells, Pt.slots] at X294 l294 y294 z294 st294 hQ294
    subst l294 y294 z294
    obtain ⟨rfl, Nq294, Kq294, P294_0, P294_1, P294_2, P294_3⟩ := hQ294
    have N294 := Fr.app N289 Nq294
    have e294 : T294.heap = T294.heap := rfl
    have Z295 := Nat.le_trans Z290 Kq294.1
    refine own_tr st294 ?_
    show own_E p e below _ T294 (mkF m 46 #[iv p1, iv p2, iv p3, iv p4, iv 13, rv b282, .unset] [])
    refine own_st (fun t k => XS.aload X294.here hx rfl (hb hby at_46) rfl rfl k) ?_
    show own_E p e below _ T294 (mkF m 48 #[iv p1, iv p2, iv p3, iv p4, iv 13, rv b282, .unset] [.ref b282])
    obtain ⟨cq296, kq296, q296a, q296b, q296c⟩ := isOf hZ e294 P294_0
    obtain ⟨_, _, ⟨T296, L296, k296, n296⟩, -, X296, ⟨Lc296, hQ296, l296, y296, z296⟩, st296⟩ := X294.virtualBack hx (y := own_y7) (z := own_y7) hown (mvT hZ (own_w hw 30 rfl)) (mvT hZ (own_w hw 31 rfl)) (notFace_of_selects (args := #[]) (mvT hZ (own_w hw 33 rfl))) (mvT hZ (own_w hw 33 rfl)) (mvT hZ (own_w hw 32 rfl)) (by decide) (backOf (W := 0) (own_size l Z a0 hw [] b282 (14 : Int32) T294.heap n0 Z295 P294_2) hZ (own_w hw 34 rfl) (own_w hw 3 rfl) (by decide) (by decide)) q296a q296c (g := (mkF m 48 #[iv p1, iv p2, iv p3, iv p4, iv 13, rv b282, .unset] [.ref b282])) rfl (by rw [hml]; rfl) (Steps.refl _) (argsL := []) (rest := []) (lenOf own_pd_0 rfl) rfl (by show 2 * 0 + _ ≤ _; exact Nat.le_of_eq rfl) (hb hby at_48) (fun _ _ => ⟨rfl, e294, (by decide : 2 + 0 ≤ _), (by decide : 18 + 0 ≤ _)⟩)
    dsimp only [Pt.U, Pt.locs, Pt.cells, Pt.slots] at X296 l296 y296 z296 st296 hQ296
    subst l296 y296 z296
    obtain ⟨hR296, e296, rfl⟩ := hQ296
    have N296 := Fr.app N294 (Fr.nil n0)
    obtain rfl := hR296
    refine own_tr st296 ?_
    show own_E p e below _ T296 (mkF m 51 #[iv p1, iv p2, iv p3, iv p4, iv 13, rv b282, .unset] [.int 14])
    refine own_st (fun t k => XS.iload X296.here hx rfl (hb hby at_51) rfl k) ?_
    show own_E p e below _ T296 (mkF m 53 #[iv p1, iv p2, iv p3, iv p4, iv 13, rv b282, .unset] [.int 13, .int 14])
    refine own_st (fun t k => XS.iconst X296.here hx rfl (hb hby at_53) k) ?_
    show own_E p e below _ T296 (mkF m 54 #[iv p1, iv p2, iv p3, iv p4, iv 13, rv b282, .unset] [.int 1, .int 13, .int 14])
    refine own_st (fun t k => XS.iadd X296.here hx rfl (hb hby at_54) rfl k) ?_
    show own_E p e below _ T296 (mkF m 55 #[iv p1, iv p2, iv p3, iv p4, iv 13, rv b282, .unset] [.int 14, .int 14])
    refine own_st (fun t k => XS.icmpNo X296.here hx rfl (hb hby at_55) rfl (by decide) k) ?_
    show own_E p e below _ T296 (mkF m 58 #[iv p1, iv p2, iv p3, iv p4, iv 13, rv b282, .unset] [])
    refine own_st (fun t k => XS.aload X296.here hx rfl (hb hby at_58) rfl rfl k) ?_
    show own_E p e below _ T296 (mkF m 60 #[iv p1, iv p2, iv p3, iv p4, iv 13, rv b282, .unset] [.ref b282])
    refine own_st (fun t k => XS.iload X296.here hx rfl (hb hby at_60) rfl k) ?_
    show own_E p e below _ T296 (mkF m 62 #[iv p1, iv p2, iv p3, iv p4, iv 13, rv b282, .unset] [.int 13, .ref b282])
    obtain ⟨cq297, kq297, q297a, q297b, q297c⟩ := isOf hZ e296 P294_0
    obtain ⟨_, _, ⟨T297, L297, k297, n297⟩, -, X297, ⟨Lc297, hQ297, l297, y297, z297⟩, st297⟩ := X296.virtualBack hx (y := own_y6) (z := own_y6) hown (mvT hZ (own_w hw 35 rfl)) (mvT hZ (own_w hw 36 rfl)) (notFace_of_selects (args := #[]) (mvT hZ (own_w hw 38 rfl))) (mvT hZ (own_w hw 38 rfl)) (mvT hZ (own_w hw 37 rfl)) (by decide) (backOf (W := 0) (own_get16_13 l Z a0 hw [] b282 b284_o0 k284_o1 (0 : Int32) (0 : Int32) (0 : Int32) (0 : Int32) (0 : Int32) (0 : Int32) (0 : Int32) (0 : Int32) (0 : Int32) (0 : Int32) (0 : Int32) (0 : Int32) p3 p1 (0 : Int32) (0 : Int32) T294.heap n0 Z295 P294_1 P294_3) hZ (own_w hw 39 rfl) (own_w hw 3 rfl) (by decide) (by decide)) q297a q297c (g := (mkF m 62 #[iv p1, iv p2, iv p3, iv p4, iv 13, rv b282, .unset] [.int 13, .ref b282])) rfl (by rw [hml]; rfl) (Steps.refl _) (argsL := [(.int (13 : Int32))]) (rest := []) (lenOf own_pd_2 rfl) rfl (by show 2 * 0 + _ ≤ _; exact Nat.le_of_eq rfl) (hb hby at_62) (fun _ _ => ⟨rfl, e296, (by decide : 2 + 0 ≤ _), (by decide : 18 + 0 ≤ _)⟩)
    dsimp only [Pt.U, Pt.locs, Pt.cells, Pt.slots] at X297 l297 y297 z297 st297 hQ297
    subst l297 y297 z297
    obtain ⟨hR297, e297, rfl⟩ := hQ297
    have N297 := Fr.app N296 (Fr.nil n0)
    obtain rfl := hR297
    refine own_tr st297 ?_
    show own_E p e below _ T297 (mkF m 65 #[iv p1, iv p2, iv p3, iv p4, iv 13, rv b282, .unset] [.int p1])
    refine own_st (fun t k => XS.iloadN X297.here hx rfl (hb hby at_65) rfl k) ?_
    show own_E p e below _ T297 (mkF m 66 #[iv p1, iv p2, iv p3, iv p4, iv 13, rv b282, .unset] [.int p1, .int p1])
    refine own_st (fun t k => XS.icmpNo X297.here hx rfl (hb hby at_66) rfl (teq rfl).2 k) ?_
    show own_E p e below _ T297 (mkF m 69 #[iv p1, iv p2, iv p3, iv p4, iv 13, rv b282, .unset] [])
    refine own_st (fun t k => XS.iconst X297.here hx rfl (hb hby at_69) k) ?_
    show own_E p e below _ T297 (mkF m 70 #[iv p1, iv p2, iv p3, iv p4, iv 13, rv b282, .unset] [.int 1])
    refine own_st (fun t k => XS.goto X297.here hx rfl (pc0 := 70) (pc' := 74) rfl (hb hby at_70) (by decide) (by decide) k) ?_
    show own_E p e below _ T297 (mkF m 74 #[iv p1, iv p2, iv p3, iv p4, iv 13, rv b282, .unset] [.int 1])
    refine own_st (fun t k => XS.istore X297.here hx rfl (hb hby at_74) rfl (l' := #[iv p1, iv p2, iv p3, iv p4, iv 13, rv b282, iv 1]) rfl k) ?_
    show own_E p e below _ T297 (mkF m 76 #[iv p1, iv p2, iv p3, iv p4, iv 13, rv b282, iv 1] [])
    refine own_st (fun t k => XS.aload X297.here hx rfl (hb hby at_76) rfl rfl k) ?_
    show own_E p e below _ T297 (mkF m 78 #[iv p1, iv p2, iv p3, iv p4, iv 13, rv b282, iv 1] [.ref b282])
    refine own_st (fun t k => XS.iloadN X297.here hx rfl (hb hby at_78) rfl k) ?_
    show own_E p e below _ T297 (mkF m 79 #[iv p1, iv p2, iv p3, iv p4, iv 13, rv b282, iv 1] [.int p2, .ref b282])
    obtain ⟨cq298, kq298, q298a, q298b, q298c⟩ := isOf hZ e297 P294_0
    obtain ⟨_, _, ⟨T298, L298, k298, n298⟩, -, X298, ⟨Lc298, hQ298, l298, y298, z298⟩, st298⟩ := X297.virtualBack hx (y := own_y5) (z := own_y5) hown (mvT hZ (own_w hw 25 rfl)) (mvT hZ (own_w hw 26 rfl)) (notFace_of_selects (args := #[]) (mvT hZ (own_w hw 28 rfl))) (mvT hZ (own_w hw 28 rfl)) (mvT hZ (own_w hw 27 rfl)) (by decide) (backOf (W := 0) (own_add14 l Z a0 hw [] b282 b284_o0 k284_o1 p2 (0 : Int32) (0 : Int32) (0 : Int32) (0 : Int32) (0 : Int32) (0 : Int32) (0 : Int32) (0 : Int32) (0 : Int32) (0 : Int32) (0 : Int32) (0 : Int32) p3 p1 (0 : Int32) (0 : Int32) T294.heap n0 Z295 P294_0 P294_1 P294_2 P294_3 ne_b282_b284_o0 g_b282 g_b284_o0) hZ (own_w hw 29 rfl) (own_w hw 3 rfl) (by decide) (by decide)) q298a q298c (g := (mkF m 79 #[iv p1, iv p2, iv p3, iv p4, iv 13, rv b282, iv 1] [.int p2, .ref b282])) rfl (by rw [hml]; rfl) (Steps.refl _) (argsL := [(.int p2)]) (rest := []) (lenOf own_pd_3 rfl) rfl (by show 2 * 0 + _ ≤ _; exact Nat.le_of_eq rfl) (hb hby at_79) (fun _ _ => ⟨rfl, e297, (by decide : 2 + 0 ≤ _), (by decide : 18 + 0 ≤ _)⟩)
    dsimp only [Pt.U, Pt.locs, Pt.cells, Pt.slots] at X298 l298 y298 z298 st298 hQ298
    subst l298 y298 z298
    obtain ⟨rfl, Nq298, Kq298, P298_0, P298_1, P298_2, P298_3⟩ := hQ298
    have N298 := Fr.app N297 Nq298
    have e298 : T298.heap = T298.heap := rfl
    have Z299 := Nat.le_trans Z295 Kq298.1
    refine own_tr st298 ?_
    show own_E p e below _ T298 (mkF m 82 #[iv p1, iv p2, iv p3, iv p4, iv 13, rv b282, iv 1] [])
    refine own_st (fun t k => XS.iload X298.here hx rfl (hb hby at_82) rfl k) ?_
    show own_E p e below _ T298 (mkF m 84 #[iv p1, iv p2, iv p3, iv p4, iv 13, rv b282, iv 1] [.int 1])
    refine own_st (fun t k => XS.ifNo X298.here hx rfl (hb hby at_84) rfl (by decide) k) ?_
    show own_E p e below _ T298 (mkF m 87 #[iv p1, iv p2, iv p3, iv p4, iv 13, rv b282, iv 1] [])
    refine own_st (fun t k => XS.aload X298.here hx rfl (hb hby at_87) rfl rfl k) ?_
    show own_E p e below _ T298 (mkF m 89 #[iv p1, iv p2, iv p3, iv p4, iv 13, rv b282, iv 1] [.ref b282])
    obtain ⟨cq300, kq300, q300a, q300b, q300c⟩ := isOf hZ e298 P298_0
    obtain ⟨_, _, ⟨T300, L300, k300, n300⟩, -, X300, ⟨Lc300, hQ300, l300, y300, z300⟩, st300⟩ := X298.virtualBack hx (y := own_y7) (z := own_y7) hown (mvT hZ (own_w hw 30 rfl)) (mvT hZ (own_w hw 31 rfl)) (notFace_of_selects (args := #[]) (mvT hZ (own_w hw 33 rfl))) (mvT hZ (own_w hw 33 rfl)) (mvT hZ (own_w hw 32 rfl)) (by decide) (backOf (W := 0) (own_size l Z a0 hw [] b282 (15 : Int32) T298.heap n0 Z299 P298_2) hZ (own_w hw 34 rfl) (own_w hw 3 rfl) (by decide) (by decide)) q300a q300c (g := (mkF m 89 #[iv p1, iv p2, iv p3, iv p4, iv 13, rv b282, iv 1] [.ref b282])) rfl (by rw [hml]; rfl) (Steps.refl _) (argsL := []) (rest := []) (lenOf own_pd_0 rfl) rfl (by show 2 * 0 + _ ≤ _; exact Nat.le_of_eq rfl) (hb hby at_89) (fun _ _ => ⟨rfl, e298, (by decide : 2 + 0 ≤ _), (by decide : 18 + 0 ≤ _)⟩)
    dsimp only [Pt.U, Pt.locs, Pt.cells, Pt.slots] at X300 l300 y300 z300 st300 hQ300
    subst l300 y300 z300
    obtain ⟨hR300, e300, rfl⟩ := hQ300
    have N300 := Fr.app N298 (Fr.nil n0)
    obtain rfl := hR300
    refine own_tr st300 ?_
    show own_E p e below _ T300 (mkF m 92 #[iv p1, iv p2, iv p3, iv p4, iv 13, rv b282, iv 1] [.int 15])
    refine own_st (fun t k => XS.iload X300.here hx rfl (hb hby at_92) rfl k) ?_
    show own_E p e below _ T300 (mkF m 94 #[iv p1, iv p2, iv p3, iv p4, iv 13, rv b282, iv 1] [.int 13, .int 15])
    refine own_st (fun t k => XS.iconst X300.here hx rfl (hb hby at_94) k) ?_
    show own_E p e below _ T300 (mkF m 95 #[iv p1, iv p2, iv p3, iv p4, iv 13, rv b282, iv 1] [.int 2, .int 13, .int 15])
    refine own_st (fun t k => XS.iadd X300.here hx rfl (hb hby at_95) rfl k) ?_
    show own_E p e below _ T300 (mkF m 96 #[iv p1, iv p2, iv p3, iv p4, iv 13, rv b282, iv 1] [.int 15, .int 15])
    refine own_st (fun t k => XS.icmpNo X300.here hx rfl (hb hby at_96) rfl (by decide) k) ?_
    show own_E p e below _ T300 (mkF m 99 #[iv p1, iv p2, iv p3, iv p4, iv 13, rv b282, iv 1] [])
    refine own_st (fun t k => XS.aload X300.here hx rfl (hb hby at_99) rfl rfl k) ?_
    show own_E p e below _ T300 (mkF m 101 #[iv p1, iv p2, iv p3, iv p4, iv 13, rv b282, iv 1] [.ref b282])
    refine own_st (fun t k => XS.iload X300.here hx rfl (hb hby at_101) rfl k) ?_
    show own_E p e below _ T300 (mkF m 103 #[iv p1, iv p2, iv p3, iv p4, iv 13, rv b282, iv 1] [.int 13, .ref b282])
    obtain ⟨cq301, kq301, q301a, q301b, q301c⟩ := isOf hZ e300 P298_0
    obtain ⟨_, _, ⟨T301, L301, k301, n301⟩, -, X301, ⟨Lc301, hQ301, l301, y301, z301⟩, st301⟩ := X300.virtualBack hx (y := own_y6) (z := own_y6) hown (mvT hZ (own_w hw 35 rfl)) (mvT hZ (own_w hw 36 rfl)) (notFace_of_selects (args := #[]) (mvT hZ (own_w hw 38 rfl))) (mvT hZ (own_w hw 38 rfl)) (mvT hZ (own_w hw 37 rfl)) (by decide) (backOf (W := 0) (own_get16_13 l Z a0 hw [] b282 b284_o0 k284_o1 (0 : Int32) (0 : Int32) (0 : Int32) (0 : Int32) (0 : Int32) (0 : Int32) (0 : Int32) (0 : Int32) (0 : Int32) (0 : Int32) (0 : Int32) (0 : Int32) p3 p1 p2 (0 : Int32) T298.heap n0 Z299 P298_1 P298_3) hZ (own_w hw 39 rfl) (own_w hw 3 rfl) (by decide) (by decide)) q301a q301c (g := (mkF m 103 #[iv p1, iv p2, iv p3, iv p4, iv 13, rv b282, iv 1] [.int 13, .ref b282])) rfl (by rw [hml]; rfl) (Steps.refl _) (argsL := [(.int (13 : Int32))]) (rest := []) (lenOf own_pd_2 rfl) rfl (by show 2 * 0 + _ ≤ _; exact Nat.le_of_eq rfl) (hb hby at_103) (fun _ _ => ⟨rfl, e300, (by decide : 2 + 0 ≤ _), (by decide : 18 + 0 ≤ _)⟩)
    dsimp only [Pt.U, Pt.locs, Pt.cells, Pt.slots] at X301 l301 y301 z301 st301 hQ301
    subst l301 y301 z301
    obtain ⟨hR301, e301, rfl⟩ := hQ301
    have N301 := Fr.app N300 (Fr.nil n0)
    obtain rfl := hR301
    refine own_tr st301 ?_
    show own_E p e below _ T301 (mkF m 106 #[iv p1, iv p2, iv p3, iv p4, iv 13, rv b282, iv 1] [.int p1])
    refine own_st (fun t k => XS.iloadN X301.here hx rfl (hb hby at_106) rfl k) ?_
    show own_E p e below _ T301 (mkF m 107 #[iv p1, iv p2, iv p3, iv p4, iv 13, rv b282, iv 1] [.int p1, .int p1])
    refine own_st (fun t k => XS.icmpNo X301.here hx rfl (hb hby at_107) rfl (teq rfl).2 k) ?_
    show own_E p e below _ T301 (mkF m 110 #[iv p1, iv p2, iv p3, iv p4, iv 13, rv b282, iv 1] [])
    refine own_st (fun t k => XS.aload X301.here hx rfl (hb hby at_110) rfl rfl k) ?_
    show own_E p e below _ T301 (mkF m 112 #[iv p1, iv p2, iv p3, iv p4, iv 13, rv b282, iv 1] [.ref b282])
    refine own_st (fun t k => XS.iload X301.here hx rfl (hb hby at_112) rfl k) ?_
    show own_E p e below _ T301 (mkF m 114 #[iv p1, iv p2, iv p3, iv p4, iv 13, rv b282, iv 1] [.int 13, .ref b282])
    refine own_st (fun t k => XS.iconst X301.here hx rfl (hb hby at_114) k) ?_
    show own_E p e below _ T301 (mkF m 115 #[iv p1, iv p2, iv p3, iv p4, iv 13, rv b282, iv 1] [.int 1, .int 13, .ref b282])
    refine own_st (fun t k => XS.iadd X301.here hx rfl (hb hby at_115) rfl k) ?_
    show own_E p e below _ T301 (mkF m 116 #[iv p1, iv p2, iv p3, iv p4, iv 13, rv b282, iv 1] [.int 14, .ref b282])
    obtain ⟨cq302, kq302, q302a, q302b, q302c⟩ := isOf hZ e301 P298_0
    obtain ⟨_, _, ⟨T302, L302, k302, n302⟩, -, X302, ⟨Lc302, hQ302, l302, y302, z302⟩, st302⟩ := X301.virtualBack hx (y := own_y6) (z := own_y6) hown (mvT hZ (own_w hw 35 rfl)) (mvT hZ (own_w hw 36 rfl)) (notFace_of_selects (args := #[]) (mvT hZ (own_w hw 38 rfl))) (mvT hZ (own_w hw 38 rfl)) (mvT hZ (own_w hw 37 rfl)) (by decide) (backOf (W := 0) (own_get16_14 l Z a0 hw [] b282 b284_o0 k284_o1 (0 : Int32) (0 : Int32) (0 : Int32) (0 : Int32) (0 : Int32) (0 : Int32) (0 : Int32) (0 : Int32) (0 : Int32) (0 : Int32) (0 : Int32) (0 : Int32) p3 p1 p2 (0 : Int32) T298.heap n0 Z299 P298_1 P298_3) hZ (own_w hw 39 rfl) (own_w hw 3 rfl) (by decide) (by decide)) q302a q302c (g := (mkF m 116 #[iv p1, iv p2, iv p3, iv p4, iv 13, rv b282, iv 1] [.int 14, .ref b282])) rfl (by rw [hml]; rfl) (Steps.refl _) (argsL := [(.int (14 : Int32))]) (rest := []) (lenOf own_pd_2 rfl) rfl (by show 2 * 0 + _ ≤ _; exact Nat.le_of_eq rfl) (hb hby at_116) (fun _ _ => ⟨rfl, e301, (by decide : 2 + 0 ≤ _), (by decide : 18 + 0 ≤ _)⟩)
    dsimp only [Pt.U, Pt.locs, Pt.cells, Pt.slots] at X302 l302 y302 z302 st302 hQ302
    subst l302 y302 z302
    obtain ⟨hR302, e302, rfl⟩ := hQ302
    have N302 := Fr.app N301 (Fr.nil n0)
    obtain rfl := hR302
    refine own_tr st302 ?_
    show own_E p e below _ T302 (mkF m 119 #[iv p1, iv p2, iv p3, iv p4, iv 13, rv b282, iv 1] [.int p2])
    refine own_st (fun t k => XS.iloadN X302.here hx rfl (hb hby at_119) rfl k) ?_
    show own_E p e below _ T302 (mkF m 120 #[iv p1, iv p2, iv p3, iv p4, iv 13, rv b282, iv 1] [.int p2, .int p2])
    refine own_st (fun t k => XS.icmpNo X302.here hx rfl (hb hby at_120) rfl (teq rfl).2 k) ?_
    show own_E p e below _ T302 (mkF m 123 #[iv p1, iv p2, iv p3, iv p4, iv 13, rv b282, iv 1] [])
    refine own_st (fun t k => XS.iconst X302.here hx rfl (hb hby at_123) k) ?_
    show own_E p e below _ T302 (mkF m 124 #[iv p1, iv p2, iv p3, iv p4, iv 13, rv b282, iv 1] [.int 1])
    refine own_st (fun t k => XS.goto X302.here hx rfl (pc0 := 124) (pc' := 128) rfl (hb hby at_124) (by decide) (by decide) k) ?_
    show own_E p e below _ T302 (mkF m 128 #[iv p1, iv p2, iv p3, iv p4, iv 13, rv b282, iv 1] [.int 1])
    refine own_st (fun t k => XS.istore X302.here hx rfl (hb hby at_128) rfl (l' := #[iv p1, iv p2, iv p3, iv p4, iv 13, rv b282, iv 1]) rfl k) ?_
    show own_E p e below _ T302 (mkF m 130 #[iv p1, iv p2, iv p3, iv p4, iv 13, rv b282, iv 1] [])
    refine own_st (fun t k => XS.iload X302.here hx rfl (hb hby at_130) rfl k) ?_
    show own_E p e below _ T302 (mkF m 132 #[iv p1, iv p2, iv p3, iv p4, iv 13, rv b282, iv 1] [.int 13])
    refine own_st (fun t k => XS.ifNo X302.here hx rfl (hb hby at_132) rfl (by decide) k) ?_
    show own_E p e below _ T302 (mkF m 135 #[iv p1, iv p2, iv p3, iv p4, iv 13, rv b282, iv 1] [])
    refine own_st (fun t k => XS.iload X302.here hx rfl (hb hby at_135) rfl k) ?_
    show own_E p e below _ T302 (mkF m 137 #[iv p1, iv p2, iv p3, iv p4, iv 13, rv b282, iv 1] [.int 1])
    refine own_st (fun t k => XS.ifNo X302.here hx rfl (hb hby at_137) rfl (by decide) k) ?_
    show own_E p e below _ T302 (mkF m 140 #[iv p1, iv p2, iv p3, iv p4, iv 13, rv b282, iv 1] [])
    refine own_st (fun t k => XS.aload X302.here hx rfl (hb hby at_140) rfl rfl k) ?_
    show own_E p e below _ T302 (mkF m 142 #[iv p1, iv p2, iv p3, iv p4, iv 13, rv b282, iv 1] [.ref b282])
    refine own_st (fun t k => XS.iload X302.here hx rfl (hb hby at_142) rfl k) ?_
    show own_E p e below _ T302 (mkF m 144 #[iv p1, iv p2, iv p3, iv p4, iv 13, rv b282, iv 1] [.int 13, .ref b282])
    refine own_st (fun t k => XS.iconst X302.here hx rfl (hb hby at_144) k) ?_
    show own_E p e below _ T302 (mkF m 145 #[iv p1, iv p2, iv p3, iv p4, iv 13, rv b282, iv 1] [.int 1, .int 13, .ref b282])
    refine own_st (fun t k => XS.isub X302.here hx rfl (hb hby at_145) rfl k) ?_
    show own_E p e below _ T302 (mkF m 146 #[iv p1, iv p2, iv p3, iv p4, iv 13, rv b282, iv 1] [.int 12, .ref b282])
    obtain ⟨cq303, kq303, q303a, q303b, q303c⟩ := isOf hZ e302 P298_0
    obtain ⟨_, _, ⟨T303, L303, k303, n303⟩, -, X303, ⟨Lc303, hQ303, l303, y303, z303⟩, st303⟩ := X302.virtualBack hx (y := own_y6) (z := own_y6) hown (mvT hZ (own_w hw 35 rfl)) (mvT hZ (own_w hw 36 rfl)) (notFace_of_selects (args := #[]) (mvT hZ (own_w hw 38 rfl))) (mvT hZ (own_w hw 38 rfl)) (mvT hZ (own_w hw 37 rfl)) (by decide) (backOf (W := 0) (own_get16_12 l Z a0 hw [] b282 b284_o0 k284_o1 (0 : Int32) (0 : Int32) (0 : Int32) (0 : Int32) (0 : Int32) (0 : Int32) (0 : Int32) (0 : Int32) (0 : Int32) (0 : Int32) (0 : Int32) (0 : Int32) p3 p1 p2 (0 : Int32) T298.heap n0 Z299 P298_1 P298_3) hZ (own_w hw 39 rfl) (own_w hw 3 rfl) (by decide) (by decide)) q303a q303c (g := (mkF m 146 #[iv p1, iv p2, iv p3, iv p4, iv 13, rv b282, iv 1] [.int 12, .ref b282])) rfl (by rw [hml]; rfl) (Steps.refl _) (argsL := [(.int (12 : Int32))]) (rest := []) (lenOf own_pd_2 rfl) rfl (by show 2 * 0 + _ ≤ _; exact Nat.le_of_eq rfl) (hb hby at_146) (fun _ _ => ⟨rfl, e302, (by decide : 2 + 0 ≤ _), (by decide : 18 + 0 ≤ _)⟩)
    dsimp only [Pt.U, Pt.locs, Pt.cells, Pt.slots] at X303 l303 y303 z303 st303 hQ303
    subst l303 y303 z303
    obtain ⟨hR303, e303, rfl⟩ := hQ303
    have N303 := Fr.app N302 (Fr.nil n0)
    obtain rfl := hR303
    refine own_tr st303 ?_
    show own_E p e below _ T303 (mkF m 149 #[iv p1, iv p2, iv p3, iv p4, iv 13, rv b282, iv 1] [.int p3])
    refine own_st (fun t k => XS.iloadN X303.here hx rfl (hb hby at_149) rfl k) ?_
    show own_E p e below _ T303 (mkF m 150 #[iv p1, iv p2, iv p3, iv p4, iv 13, rv b282, iv 1] [.int p3, .int p3])
    refine own_st (fun t k => XS.icmpNo X303.here hx rfl (hb hby at_150) rfl (teq rfl).2 k) ?_
    show own_E p e below _ T303 (mkF m 153 #[iv p1, iv p2, iv p3, iv p4, iv 13, rv b282, iv 1] [])
    refine own_st (fun t k => XS.iconst X303.here hx rfl (hb hby at_153) k) ?_
    show own_E p e below _ T303 (mkF m 154 #[iv p1, iv p2, iv p3, iv p4, iv 13, rv b282, iv 1] [.int 1])
    refine own_st (fun t k => XS.goto X303.here hx rfl (pc0 := 154) (pc' := 158) rfl (hb hby at_154) (by decide) (by decide) k) ?_
    show own_E p e below _ T303 (mkF m 158 #[iv p1, iv p2, iv p3, iv p4, iv 13, rv b282, iv 1] [.int 1])
    refine own_st (fun t k => XS.istore X303.here hx rfl (hb hby at_158) rfl (l' := #[iv p1, iv p2, iv p3, iv p4, iv 13, rv b282, iv 1]) rfl k) ?_
    show own_E p e below _ T303 (mkF m 160 #[iv p1, iv p2, iv p3, iv p4, iv 13, rv b282, iv 1] [])
    refine own_st (fun t k => XS.iload X303.here hx rfl (hb hby at_160) rfl k) ?_
    show own_E p e below _ T303 (mkF m 162 #[iv p1, iv p2, iv p3, iv p4, iv 13, rv b282, iv 1] [.int 1])
    refine own_retS X303 hx Bd.notSynchronized Bd.returns rfl (by decide) (hb hby at_162) (by decide) (by decide) ?_
    exact ⟨rfl, N303⟩
  · rw [hs1]
    show own_E p e below _ s₁ (mkF m 9 #[iv p1, iv p2, iv p3, iv p4, iv 14, .unset, .unset] [])
    obtain ⟨T304, h304, X304, e304, E304, A304, D304, -, st304⟩ := newO X0 hx hZ hown (own_w hw 1 rfl) (own_w hw 2 rfl) (own_w hw 3 rfl) e0 (g := (mkF m 9 #[iv p1, iv p2, iv p3, iv p4, iv 14, .unset, .unset] [])) rfl (hb hby at_9) (by decide) (by decide)
    obtain ⟨b304, g304⟩ : ∃ z, z = h0.size := ⟨_, rfl⟩
    rw [← g304] at A304 D304 st304
    have g_b304 : n0 ≤ b304 := Nat.le_trans Z0 (Nat.le_of_eq g304.symm)
    have Z305 := Nat.le_trans Z0 E304.1
    have F_values_b304 : Fld Z h304 b304 "com/example/kalchas/kalchas/IntList" "values" "[I" .null := D304 (Or.inl (own_w hw 12 rfl)) (ty := (.array .int)) (by decide)
    have F_size_b304 : Fld Z h304 b304 "com/example/kalchas/kalchas/IntList" "size" "I" (.int (0 : Int32)) := D304 (Or.inl (own_w hw 19 rfl)) (ty := .int) (by decide)
    refine own_st st304 ?_
    show own_E p e below _ T304 (mkF m 12 #[iv p1, iv p2, iv p3, iv p4, iv 14, .unset, .unset] [.ref b304])
    refine own_st (fun t k => XS.dup X304.here hx rfl (hb hby at_12) rfl rfl k) ?_
    show own_E p e below _ T304 (mkF m 13 #[iv p1, iv p2, iv p3, iv p4, iv 14, .unset, .unset] [.ref b304, .ref b304])
    obtain ⟨_, _, ⟨T306, L306, k306, n306⟩, -, X306, ⟨Lc306, hQ306, l306, y306, z306⟩, st306⟩ := X304.specialBack hx (y := own_y2) rfl hown (mvT hZ (own_w hw 4 rfl)) (mvT hZ (own_w hw 5 rfl)) (mvT hZ (own_w hw 6 rfl)) (by decide) (backOf (W := 1) (own_init l Z a0 hw [] b304 h304 n0 Z305 A304 F_values_b304 F_size_b304 g_b304) hZ (own_w hw 6 rfl) (own_w hw 3 rfl) (by decide) (by decide)) (g := (mkF m 13 #[iv p1, iv p2, iv p3, iv p4, iv 14, .unset, .unset] [.ref b304, .ref b304])) rfl (by rw [hml]; rfl) (Steps.refl _) (a := b304) (argsL := []) (rest := [(.ref b304)]) (lenOf own_pd_1 rfl) rfl (by show 2 * 0 + _ ≤ _; exact Nat.le_of_eq rfl) (hb hby at_13) (fun _ _ => ⟨rfl, e304, (by decide : 1 + 1 ≤ _), (by decide : 2 + 16 ≤ _)⟩)
    dsimp only [Pt.U, Pt.locs, Pt.cells, Pt.slots] at X306 l306 y306 z306 st306 hQ306
    subst l306 y306 z306
    obtain ⟨b306_o0, k306_o1, rfl, Nq306, Kq306, sz306_0, P306_0, P306_1, P306_2, P306_3⟩ := hQ306
    have N306 := Fr.app (Fr.nil n0) Nq306
    have ne_b304_b306_o0 : b304 ≠ b306_o0 := Nat.ne_of_lt (Nat.lt_of_lt_of_le A304.lt sz306_0)
    have g_b306_o0 : n0 ≤ b306_o0 := Nat.le_trans Z305 sz306_0
    have e306 : T306.heap = T306.heap := rfl
    have Z307 := Nat.le_trans Z305 Kq306.1
    refine own_tr st306 ?_
    show own_E p e below _ T306 (mkF m 16 #[iv p1, iv p2, iv p3, iv p4, iv 14, .unset, .unset] [.ref b304])
    refine own_st (fun t k => XS.astore X306.here hx rfl (hb hby at_16) rfl rfl (l' := #[iv p1, iv p2, iv p3, iv p4, iv 14, rv b304, .unset]) rfl k) ?_
    show own_E p e below _ T306 (mkF m 18 #[iv p1, iv p2, iv p3, iv p4, iv 14, rv b304, .unset] [])
    refine own_st (fun t k => XS.aload X306.here hx rfl (hb hby at_18) rfl rfl k) ?_
    show own_E p e below _ T306 (mkF m 20 #[iv p1, iv p2, iv p3, iv p4, iv 14, rv b304, .unset] [.ref b304])
    refine own_st (fun t k => XS.iload X306.here hx rfl (hb hby at_20) rfl k) ?_
    show own_E p e below _ T306 (mkF m 22 #[iv p1, iv p2, iv p3, iv p4, iv 14, rv b304, .unset] [.int 14, .ref b304])
    obtain ⟨cq308, kq308, q308a, q308b, q308c⟩ := isOf hZ e306 P306_0
    obtain ⟨_, _, ⟨T308, L308, k308, n308⟩, -, X308, ⟨Lc308, hQ308, l308, y308, z308⟩, st308⟩ := X306.virtualBack hx (y := own_y3) (z := own_y3) hown (mvT hZ (own_w hw 13 rfl)) (mvT hZ (own_w hw 14 rfl)) (notFace_of_selects (args := #[]) (mvT hZ (own_w hw 16 rfl))) (mvT hZ (own_w hw 16 rfl)) (mvT hZ (own_w hw 15 rfl)) (by decide) (backOf (W := 0) (own_trunc l Z a0 hw [] b304 b306_o0 (14 : Int32) (0 : Int32) T306.heap n0 Z307 P306_0 P306_1 P306_2 g_b304) hZ (own_w hw 17 rfl) (own_w hw 3 rfl) (by decide) (by decide)) q308a q308c (g := (mkF m 22 #[iv p1, iv p2, iv p3, iv p4, iv 14, rv b304, .unset] [.int 14, .ref b304])) rfl (by rw [hml]; rfl) (Steps.refl _) (argsL := [(.int (14 : Int32))]) (rest := []) (lenOf own_pd_3 rfl) rfl (by show 2 * 0 + _ ≤ _; exact Nat.le_of_eq rfl) (hb hby at_22) (fun _ _ => ⟨rfl, e306, (by decide : 2 + 0 ≤ _), (by decide : 18 + 0 ≤ _)⟩)
    dsimp only [Pt.U, Pt.locs, Pt.cells, Pt.slots] at X308 l308 y308 z308 st308 hQ308
    subst l308 y308 z308
    obtain ⟨rfl, Nq308, Kq308, P308_0, P308_1, P308_2⟩ := hQ308
    have N308 := Fr.app N306 Nq308
    have e308 : T308.heap = T308.heap := rfl
    have Z309 := Nat.le_trans Z307 Kq308.1
    refine own_tr st308 ?_
    show own_E p e below _ T308 (mkF m 25 #[iv p1, iv p2, iv p3, iv p4, iv 14, rv b304, .unset] [])
    refine own_st (fun t k => XS.iload X308.here hx rfl (hb hby at_25) rfl k) ?_
    show own_E p e below _ T308 (mkF m 27 #[iv p1, iv p2, iv p3, iv p4, iv 14, rv b304, .unset] [.int 14])
    refine own_st (fun t k => XS.ifNo X308.here hx rfl (hb hby at_27) rfl (by decide) k) ?_
    show own_E p e below _ T308 (mkF m 30 #[iv p1, iv p2, iv p3, iv p4, iv 14, rv b304, .unset] [])
    refine own_st (fun t k => XS.aload X308.here hx rfl (hb hby at_30) rfl rfl k) ?_
    show own_E p e below _ T308 (mkF m 32 #[iv p1, iv p2, iv p3, iv p4, iv 14, rv b304, .unset] [.ref b304])
    refine own_st (fun t k => XS.iload X308.here hx rfl (hb hby at_32) rfl k) ?_
    show own_E p e below _ T308 (mkF m 34 #[iv p1, iv p2, iv p3, iv p4, iv 14, rv b304, .unset] [.int 14, .ref b304])
    refine own_st (fun t k => XS.iconst X308.here hx rfl (hb hby at_34) k) ?_
    show own_E p e below _ T308 (mkF m 35 #[iv p1, iv p2, iv p3, iv p4, iv 14, rv b304, .unset] [.int 1, .int 14, .ref b304])
    refine own_st (fun t k => XS.isub X308.here hx rfl (hb hby at_35) rfl k) ?_
    show own_E p e below _ T308 (mkF m 36 #[iv p1, iv p2, iv p3, iv p4, iv 14, rv b304, .unset] [.int 13, .ref b304])
    refine own_st (fun t k => XS.iloadN X308.here hx rfl (hb hby at_36) rfl k) ?_
    show own_E p e below _ T308 (mkF m 37 #[iv p1, iv p2, iv p3, iv p4, iv 14, rv b304, .unset] [.int p3, .int 13, .ref b304])
    have B310 := (P306_3.keep Kq308 (ninS (Ne.symm ne_b304_b306_o0) nin0))
    obtain ⟨cq311, kq311, q311a, q311b, q311c⟩ := isOf hZ e308 P308_0
    obtain ⟨_, _, ⟨T311, L311, k311, n311⟩, -, X311, ⟨Lc311, hQ311, l311, y311, z311⟩, st311⟩ := X308.virtualBack hx (y := own_y4) (z := own_y4) hown (mvT hZ (own_w hw 20 rfl)) (mvT hZ (own_w hw 21 rfl)) (notFace_of_selects (args := #[]) (mvT hZ (own_w hw 23 rfl))) (mvT hZ (own_w hw 23 rfl)) (mvT hZ (own_w hw 22 rfl)) (by decide) (backOf (W := 0) (own_set13 l Z a0 hw [] b304 b306_o0 k306_o1 p3 (0 : Int32) (0 : Int32) (0 : Int32) (0 : Int32) (0 : Int32) (0 : Int32) (0 : Int32) (0 : Int32) (0 : Int32) (0 : Int32) (0 : Int32) (0 : Int32) (0 : Int32) (0 : Int32) (0 : Int32) (0 : Int32) T308.heap n0 Z309 P308_1 B310 ne_b304_b306_o0 g_b306_o0) hZ (own_w hw 24 rfl) (own_w hw 3 rfl) (by decide) (by decide)) q311a q311c (g := (mkF m 37 #[iv p1, iv p2, iv p3, iv p4, iv 14, rv b304, .unset] [.int p3, .int 13, .ref b304])) rfl (by rw [hml]; rfl) (Steps.refl _) (argsL := [(.int (13 : Int32)), (.int p3)]) (rest := []) (lenOf own_pd_5 rfl) rfl (by show 2 * 0 + _ ≤ _; exact Nat.le_of_eq rfl) (hb hby at_37) (fun _ _ => ⟨rfl, e308, (by decide : 2 + 0 ≤ _), (by decide : 18 + 0 ≤ _)⟩)
    dsimp only [Pt.U, Pt.locs, Pt.cells, Pt.slots] at X311 l311 y311 z311 st311 hQ311
    subst l311 y311 z311
    obtain ⟨rfl, Nq311, Kq311, P311_0⟩ := hQ311
    have N311 := Fr.app N308 Nq311
    have e311 : T311.heap = T311.heap := rfl
    have Z312 := Nat.le_trans Z309 Kq311.1
    refine own_tr st311 ?_
    show own_E p e below _ T311 (mkF m 40 #[iv p1, iv p2, iv p3, iv p4, iv 14, rv b304, .unset] [])
    refine own_st (fun t k => XS.aload X311.here hx rfl (hb hby at_40) rfl rfl k) ?_
    show own_E p e below _ T311 (mkF m 42 #[iv p1, iv p2, iv p3, iv p4, iv 14, rv b304, .unset] [.ref b304])
    refine own_st (fun t k => XS.iloadN X311.here hx rfl (hb hby at_42) rfl k) ?_
    show own_E p e below _ T311 (mkF m 43 #[iv p1, iv p2, iv p3, iv p4, iv 14, rv b304, .unset] [.int p1, .ref b304])
    have B313 := (P308_0.keep Kq311)
    have B314 := (P308_1.keep Kq311 (ninS ne_b304_b306_o0 nin0))
    have B315 := (P308_2.keep Kq311 (ninS ne_b304_b306_o0 nin0))
    obtain ⟨cq316, kq316, q316a, q316b, q316c⟩ := isOf hZ e311 B313
    obtain ⟨_, _, ⟨T316, L316, k316, n316⟩, -, X316, ⟨Lc316, hQ316, l316, y316, z316⟩, st316⟩ := X311.virtualBack hx (y := own_y5) (z := own_y5) hown (mvT hZ (own_w hw 25 rfl)) (mvT hZ (own_w hw 26 rfl)) (notFace_of_selects (args := #[]) (mvT hZ (own_w hw 28 rfl))) (mvT hZ (own_w hw 28 rfl)) (mvT hZ (own_w hw 27 rfl)) (by decide) (backOf (W := 0) (own_add14 l Z a0 hw [] b304 b306_o0 k306_o1 p1 (0 : Int32) (0 : Int32) (0 : Int32) (0 : Int32) (0 : Int32) (0 : Int32) (0 : Int32) (0 : Int32) (0 : Int32) (0 : Int32) (0 : Int32) (0 : Int32) (0 : Int32) p3 (0 : Int32) (0 : Int32) T311.heap n0 Z312 B313 B314 B315 P311_0 ne_b304_b306_o0 g_b304 g_b306_o0) hZ (own_w hw 29 rfl) (own_w hw 3 rfl) (by decide) (by decide)) q316a q316c (g := (mkF m 43 #[iv p1, iv p2, iv p3, iv p4, iv 14, rv b304, .unset] [.int p1, .ref b304])) rfl (by rw [hml]; rfl) (Steps.refl _) (argsL := [(.int p1)]) (rest := []) (lenOf own_pd_3 rfl) rfl (by show 2 * 0 + _ ≤ _; exact Nat.le_of_eq rfl) (hb hby at_43) (fun _ _ => ⟨rfl, e311, (by decide : 2 + 0 ≤ _), (by decide : 18 + 0 ≤ _)⟩)
    dsimp only [Pt.U, Pt.locs, Pt.cells, Pt.slots] at X316 l316 y316 z316 st316 hQ316
    subst l316 y316 z316
    obtain ⟨rfl, Nq316, Kq316, P316_0, P316_1, P316_2, P316_3⟩ := hQ316
    have N316 := Fr.app N311 Nq316
    have e316 : T316.heap = T316.heap := rfl
    have Z317 := Nat.le_trans Z312 Kq316.1
    refine own_tr st316 ?_
    show own_E p e below _ T316 (mkF m 46 #[iv p1, iv p2, iv p3, iv p4, iv 14, rv b304, .unset] [])
    refine own_st (fun t k => XS.aload X316.here hx rfl (hb hby at_46) rfl rfl k) ?_
    show own_E p e below _ T316 (mkF m 48 #[iv p1, iv p2, iv p3, iv p4, iv 14, rv b304, .unset] [.ref b304])
    obtain ⟨cq318, kq318, q318a, q318b, q318c⟩ := isOf hZ e316 P316_0
    obtain ⟨_, _, ⟨T318, L318, k318, n318⟩, -, X318, ⟨Lc318, hQ318, l318, y318, z318⟩, st318⟩ := X316.virtualBack hx (y := own_y7) (z := own_y7) hown (mvT hZ (own_w hw 30 rfl)) (mvT hZ (own_w hw 31 rfl)) (notFace_of_selects (args := #[]) (mvT hZ (own_w hw 33 rfl))) (mvT hZ (own_w hw 33 rfl)) (mvT hZ (own_w hw 32 rfl)) (by decide) (backOf (W := 0) (own_size l Z a0 hw [] b304 (15 : Int32) T316.heap n0 Z317 P316_2) hZ (own_w hw 34 rfl) (own_w hw 3 rfl) (by decide) (by decide)) q318a q318c (g := (mkF m 48 #[iv p1, iv p2, iv p3, iv p4, iv 14, rv b304, .unset] [.ref b304])) rfl (by rw [hml]; rfl) (Steps.refl _) (argsL := []) (rest := []) (lenOf own_pd_0 rfl) rfl (by show 2 * 0 + _ ≤ _; exact Nat.le_of_eq rfl) (hb hby at_48) (fun _ _ => ⟨rfl, e316, (by decide : 2 + 0 ≤ _), (by decide : 18 + 0 ≤ _)⟩)
    dsimp only [Pt.U, Pt.locs, Pt.cells, Pt.slots] at X318 l318 y318 z318 st318 hQ318
    subst l318 y318 z318
    obtain ⟨hR318, e318, rfl⟩ := hQ318
    have N318 := Fr.app N316 (Fr.nil n0)
    obtain rfl := hR318
    refine own_tr st318 ?_
    show own_E p e below _ T318 (mkF m 51 #[iv p1, iv p2, iv p3, iv p4, iv 14, rv b304, .unset] [.int 15])
    refine own_st (fun t k => XS.iload X318.here hx rfl (hb hby at_51) rfl k) ?_
    show own_E p e below _ T318 (mkF m 53 #[iv p1, iv p2, iv p3, iv p4, iv 14, rv b304, .unset] [.int 14, .int 15])
    refine own_st (fun t k => XS.iconst X318.here hx rfl (hb hby at_53) k) ?_
    show own_E p e below _ T318 (mkF m 54 #[iv p1, iv p2, iv p3, iv p4, iv 14, rv b304, .unset] [.int 1, .int 14, .int 15])
    refine own_st (fun t k => XS.iadd X318.here hx rfl (hb hby at_54) rfl k) ?_
    show own_E p e below _ T318 (mkF m 55 #[iv p1, iv p2, iv p3, iv p4, iv 14, rv b304, .unset] [.int 15, .int 15])
    refine own_st (fun t k => XS.icmpNo X318.here hx rfl (hb hby at_55) rfl (by decide) k) ?_
    show own_E p e below _ T318 (mkF m 58 #[iv p1, iv p2, iv p3, iv p4, iv 14, rv b304, .unset] [])
    refine own_st (fun t k => XS.aload X318.here hx rfl (hb hby at_58) rfl rfl k) ?_
    show own_E p e below _ T318 (mkF m 60 #[iv p1, iv p2, iv p3, iv p4, iv 14, rv b304, .unset] [.ref b304])
    refine own_st (fun t k => XS.iload X318.here hx rfl (hb hby at_60) rfl k) ?_
    show own_E p e below _ T318 (mkF m 62 #[iv p1, iv p2, iv p3, iv p4, iv 14, rv b304, .unset] [.int 14, .ref b304])
    obtain ⟨cq319, kq319, q319a, q319b, q319c⟩ := isOf hZ e318 P316_0
    obtain ⟨_, _, ⟨T319, L319, k319, n319⟩, -, X319, ⟨Lc319, hQ319, l319, y319, z319⟩, st319⟩ := X318.virtualBack hx (y := own_y6) (z := own_y6) hown (mvT hZ (own_w hw 35 rfl)) (mvT hZ (own_w hw 36 rfl)) (notFace_of_selects (args := #[]) (mvT hZ (own_w hw 38 rfl))) (mvT hZ (own_w hw 38 rfl)) (mvT hZ (own_w hw 37 rfl)) (by decide) (backOf (W := 0) (own_get16_14 l Z a0 hw [] b304 b306_o0 k306_o1 (0 : Int32) (0 : Int32) (0 : Int32) (0 : Int32) (0 : Int32) (0 : Int32) (0 : Int32) (0 : Int32) (0 : Int32) (0 : Int32) (0 : Int32) (0 : Int32) (0 : Int32) p3 p1 (0 : Int32) T316.heap n0 Z317 P316_1 P316_3) hZ (own_w hw 39 rfl) (own_w hw 3 rfl) (by decide) (by decide)) q319a q319c (g := (mkF m 62 #[iv p1, iv p2, iv p3, iv p4, iv 14, rv b304, .unset] [.int 14, .ref b304])) rfl (by rw [hml]; rfl) (Steps.refl _) (argsL := [(.int (14 : Int32))]) (rest := []) (lenOf own_pd_2 rfl) rfl (by show 2 * 0 + _ ≤ _; exact Nat.le_of_eq rfl) (hb hby at_62) (fun _ _ => ⟨rfl, e318, (by decide : 2 + 0 ≤ _), (by decide : 18 + 0 ≤ _)⟩)
    dsimp only [Pt.U, Pt.locs, Pt.cells, Pt.slots] at X319 l319 y319 z319 st319 hQ319
    subst l319 y319 z319
    obtain ⟨hR319, e319, rfl⟩ := hQ319
    have N319 := Fr.app N318 (Fr.nil n0)
    obtain rfl := hR319
    refine own_tr st319 ?_
    show own_E p e below _ T319 (mkF m 65 #[iv p1, iv p2, iv p3, iv p4, iv 14, rv b304, .unset] [.int p1])
    refine own_st (fun t k => XS.iloadN X319.here hx rfl (hb hby at_65) rfl k) ?_
    show own_E p e below _ T319 (mkF m 66 #[iv p1, iv p2, iv p3, iv p4, iv 14, rv b304, .unset] [.int p1, .int p1])
    refine own_st (fun t k => XS.icmpNo X319.here hx rfl (hb hby at_66) rfl (teq rfl).2 k) ?_
    show own_E p e below _ T319 (mkF m 69 #[iv p1, iv p2, iv p3, iv p4, iv 14, rv b304, .unset] [])
    refine own_st (fun t k => XS.iconst X319.here hx rfl (hb hby at_69) k) ?_
    show own_E p e below _ T319 (mkF m 70 #[iv p1, iv p2, iv p3, iv p4, iv 14, rv b304, .unset] [.int 1])
    refine own_st (fun t k => XS.goto X319.here hx rfl (pc0 := 70) (pc' := 74) rfl (hb hby at_70) (by decide) (by decide) k) ?_
    show own_E p e below _ T319 (mkF m 74 #[iv p1, iv p2, iv p3, iv p4, iv 14, rv b304, .unset] [.int 1])
    refine own_st (fun t k => XS.istore X319.here hx rfl (hb hby at_74) rfl (l' := #[iv p1, iv p2, iv p3, iv p4, iv 14, rv b304, iv 1]) rfl k) ?_
    show own_E p e below _ T319 (mkF m 76 #[iv p1, iv p2, iv p3, iv p4, iv 14, rv b304, iv 1] [])
    refine own_st (fun t k => XS.aload X319.here hx rfl (hb hby at_76) rfl rfl k) ?_
    show own_E p e below _ T319 (mkF m 78 #[iv p1, iv p2, iv p3, iv p4, iv 14, rv b304, iv 1] [.ref b304])
    refine own_st (fun t k => XS.iloadN X319.here hx rfl (hb hby at_78) rfl k) ?_
    show own_E p e below _ T319 (mkF m 79 #[iv p1, iv p2, iv p3, iv p4, iv 14, rv b304, iv 1] [.int p2, .ref b304])
    obtain ⟨cq320, kq320, q320a, q320b, q320c⟩ := isOf hZ e319 P316_0
    obtain ⟨_, _, ⟨T320, L320, k320, n320⟩, -, X320, ⟨Lc320, hQ320, l320, y320, z320⟩, st320⟩ := X319.virtualBack hx (y := own_y5) (z := own_y5) hown (mvT hZ (own_w hw 25 rfl)) (mvT hZ (own_w hw 26 rfl)) (notFace_of_selects (args := #[]) (mvT hZ (own_w hw 28 rfl))) (mvT hZ (own_w hw 28 rfl)) (mvT hZ (own_w hw 27 rfl)) (by decide) (backOf (W := 0) (own_add15 l Z a0 hw [] b304 b306_o0 k306_o1 p2 (0 : Int32) (0 : Int32) (0 : Int32) (0 : Int32) (0 : Int32) (0 : Int32) (0 : Int32) (0 : Int32) (0 : Int32) (0 : Int32) (0 : Int32) (0 : Int32) (0 : Int32) p3 p1 (0 : Int32) T316.heap n0 Z317 P316_0 P316_1 P316_2 P316_3 ne_b304_b306_o0 g_b304 g_b306_o0) hZ (own_w hw 29 rfl) (own_w hw 3 rfl) (by decide) (by decide)) q320a q320c (g := (mkF m 79 #[iv p1, iv p2, iv p3, iv p4, iv 14, rv b304, iv 1] [.int p2, .ref b304])) rfl (by rw [hml]; rfl) (Steps.refl _) (argsL := [(.int p2)]) (rest := []) (lenOf own_pd_3 rfl) rfl (by show 2 * 0 + _ ≤ _; exact Nat.le_of_eq rfl) (hb hby at_79) (fun _ _ => ⟨rfl, e319, (by decide : 2 + 0 ≤ _), (by decide : 18 + 0 ≤ _)⟩)
    dsimp only [Pt.U, Pt.locs, Pt.cells, Pt.slots] at X320 l320 y320 z320 st320 hQ320
    subst l320 y320 z320
    obtain ⟨rfl, Nq320, Kq320, P320_0, P320_1, P320_2, P320_3⟩ := hQ320
    have N320 := Fr.app N319 Nq320
    have e320 : T320.heap = T320.heap := rfl
    have Z321 := Nat.le_trans Z317 Kq320.1
    refine own_tr st320 ?_
    show own_E p e below _ T320 (mkF m 82 #[iv p1, iv p2, iv p3, iv p4, iv 14, rv b304, iv 1] [])
    refine own_st (fun t k => XS.iload X320.here hx rfl (hb hby at_82) rfl k) ?_
    show own_E p e below _ T320 (mkF m 84 #[iv p1, iv p2, iv p3, iv p4, iv 14, rv b304, iv 1] [.int 1])
    refine own_st (fun t k => XS.ifNo X320.here hx rfl (hb hby at_84) rfl (by decide) k) ?_
    show own_E p e below _ T320 (mkF m 87 #[iv p1, iv p2, iv p3, iv p4, iv 14, rv b304, iv 1] [])
    refine own_st (fun t k => XS.aload X320.here hx rfl (hb hby at_87) rfl rfl k) ?_
    show own_E p e below _ T320 (mkF m 89 #[iv p1, iv p2, iv p3, iv p4, iv 14, rv b304, iv 1] [.ref b304])
    obtain ⟨cq322, kq322, q322a, q322b, q322c⟩ := isOf hZ e320 P320_0
    obtain ⟨_, _, ⟨T322, L322, k322, n322⟩, -, X322, ⟨Lc322, hQ322, l322, y322, z322⟩, st322⟩ := X320.virtualBack hx (y := own_y7) (z := own_y7) hown (mvT hZ (own_w hw 30 rfl)) (mvT hZ (own_w hw 31 rfl)) (notFace_of_selects (args := #[]) (mvT hZ (own_w hw 33 rfl))) (mvT hZ (own_w hw 33 rfl)) (mvT hZ (own_w hw 32 rfl)) (by decide) (backOf (W := 0) (own_size l Z a0 hw [] b304 (16 : Int32) T320.heap n0 Z321 P320_2) hZ (own_w hw 34 rfl) (own_w hw 3 rfl) (by decide) (by decide)) q322a q322c (g := (mkF m 89 #[iv p1, iv p2, iv p3, iv p4, iv 14, rv b304, iv 1] [.ref b304])) rfl (by rw [hml]; rfl) (Steps.refl _) (argsL := []) (rest := []) (lenOf own_pd_0 rfl) rfl (by show 2 * 0 + _ ≤ _; exact Nat.le_of_eq rfl) (hb hby at_89) (fun _ _ => ⟨rfl, e320, (by decide : 2 + 0 ≤ _), (by decide : 18 + 0 ≤ _)⟩)
    dsimp only [Pt.U, Pt.locs, Pt.cells, Pt.slots] at X322 l322 y322 z322 st322 hQ322
    subst l322 y322 z322
    obtain ⟨hR322, e322, rfl⟩ := hQ322
    have N322 := Fr.app N320 (Fr.nil n0)
    obtain rfl := hR322
    refine own_tr st322 ?_
    show own_E p e below _ T322 (mkF m 92 #[iv p1, iv p2, iv p3, iv p4, iv 14, rv b304, iv 1] [.int 16])
    refine own_st (fun t k => XS.iload X322.here hx rfl (hb hby at_92) rfl k) ?_
    show own_E p e below _ T322 (mkF m 94 #[iv p1, iv p2, iv p3, iv p4, iv 14, rv b304, iv 1] [.int 14, .int 16])
    refine own_st (fun t k => XS.iconst X322.here hx rfl (hb hby at_94) k) ?_
    show own_E p e below _ T322 (mkF m 95 #[iv p1, iv p2, iv p3, iv p4, iv 14, rv b304, iv 1] [.int 2, .int 14, .int 16])
    refine own_st (fun t k => XS.iadd X322.here hx rfl (hb hby at_95) rfl k) ?_
    show own_E p e below _ T322 (mkF m 96 #[iv p1, iv p2, iv p3, iv p4, iv 14, rv b304, iv 1] [.int 16, .int 16])
    refine own_st (fun t k => XS.icmpNo X322.here hx rfl (hb hby at_96) rfl (by decide) k) ?_
    show own_E p e below _ T322 (mkF m 99 #[iv p1, iv p2, iv p3, iv p4, iv 14, rv b304, iv 1] [])
    refine own_st (fun t k => XS.aload X322.here hx rfl (hb hby at_99) rfl rfl k) ?_
    show own_E p e below _ T322 (mkF m 101 #[iv p1, iv p2, iv p3, iv p4, iv 14, rv b304, iv 1] [.ref b304])
    refine own_st (fun t k => XS.iload X322.here hx rfl (hb hby at_101) rfl k) ?_
    show own_E p e below _ T322 (mkF m 103 #[iv p1, iv p2, iv p3, iv p4, iv 14, rv b304, iv 1] [.int 14, .ref b304])
    obtain ⟨cq323, kq323, q323a, q323b, q323c⟩ := isOf hZ e322 P320_0
    obtain ⟨_, _, ⟨T323, L323, k323, n323⟩, -, X323, ⟨Lc323, hQ323, l323, y323, z323⟩, st323⟩ := X322.virtualBack hx (y := own_y6) (z := own_y6) hown (mvT hZ (own_w hw 35 rfl)) (mvT hZ (own_w hw 36 rfl)) (notFace_of_selects (args := #[]) (mvT hZ (own_w hw 38 rfl))) (mvT hZ (own_w hw 38 rfl)) (mvT hZ (own_w hw 37 rfl)) (by decide) (backOf (W := 0) (own_get16_14 l Z a0 hw [] b304 b306_o0 k306_o1 (0 : Int32) (0 : Int32) (0 : Int32) (0 : Int32) (0 : Int32) (0 : Int32) (0 : Int32) (0 : Int32) (0 : Int32) (0 : Int32) (0 : Int32) (0 : Int32) (0 : Int32) p3 p1 p2 T320.heap n0 Z321 P320_1 P320_3) hZ (own_w hw 39 rfl) (own_w hw 3 rfl) (by decide) (by decide)) q323a q323c (g := (mkF m 103 #[iv p1, iv p2, iv p3, iv p4, iv 14, rv b304, iv 1] [.int 14, .ref b304])) rfl (by rw [hml]; rfl) (Steps.refl _) (argsL := [(.int (14 : Int32))]) (rest := []) (lenOf own_pd_2 rfl) rfl (by show 2 * 0 + _ ≤ _; exact Nat.le_of_eq rfl) (hb hby at_103) (fun _ _ => ⟨rfl, e322, (by decide : 2 + 0 ≤ _), (by decide : 18 + 0 ≤ _)⟩)
    dsimp only [Pt.U, Pt.locs, Pt.cells, Pt.slots] at X323 l323 y323 z323 st323 hQ323
    subst l323 y323 z323
    obtain ⟨hR323, e323, rfl⟩ := hQ323
    have N323 := Fr.app N322 (Fr.nil n0)
    obtain rfl := hR323
    refine own_tr st323 ?_
    show own_E p e below _ T323 (mkF m 106 #[iv p1, iv p2, iv p3, iv p4, iv 14, rv b304, iv 1] [.int p1])
    refine own_st (fun t k => XS.iloadN X323.here hx rfl (hb hby at_106) rfl k) ?_
    show own_E p e below _ T323 (mkF m 107 #[iv p1, iv p2, iv p3, iv p4, iv 14, rv b304, iv 1] [.int p1, .int p1])
    refine own_st (fun t k => XS.icmpNo X323.here hx rfl (hb hby at_107) rfl (teq rfl).2 k) ?_
    show own_E p e below _ T323 (mkF m 110 #[iv p1, iv p2, iv p3, iv p4, iv 14, rv b304, iv 1] [])
    refine own_st (fun t k => XS.aload X323.here hx rfl (hb hby at_110) rfl rfl k) ?_
    show own_E p e below _ T323 (mkF m 112 #[iv p1, iv p2, iv p3, iv p4, iv 14, rv b304, iv 1] [.ref b304])
    refine own_st (fun t k => XS.iload X323.here hx rfl (hb hby at_112) rfl k) ?_
    show own_E p e below _ T323 (mkF m 114 #[iv p1, iv p2, iv p3, iv p4, iv 14, rv b304, iv 1] [.int 14, .ref b304])
    refine own_st (fun t k => XS.iconst X323.here hx rfl (hb hby at_114) k) ?_
    show own_E p e below _ T323 (mkF m 115 #[iv p1, iv p2, iv p3, iv p4, iv 14, rv b304, iv 1] [.int 1, .int 14, .ref b304])
    refine own_st (fun t k => XS.iadd X323.here hx rfl (hb hby at_115) rfl k) ?_
    show own_E p e below _ T323 (mkF m 116 #[iv p1, iv p2, iv p3, iv p4, iv 14, rv b304, iv 1] [.int 15, .ref b304])
    obtain ⟨cq324, kq324, q324a, q324b, q324c⟩ := isOf hZ e323 P320_0
    obtain ⟨_, _, ⟨T324, L324, k324, n324⟩, -, X324, ⟨Lc324, hQ324, l324, y324, z324⟩, st324⟩ := X323.virtualBack hx (y := own_y6) (z := own_y6) hown (mvT hZ (own_w hw 35 rfl)) (mvT hZ (own_w hw 36 rfl)) (notFace_of_selects (args := #[]) (mvT hZ (own_w hw 38 rfl))) (mvT hZ (own_w hw 38 rfl)) (mvT hZ (own_w hw 37 rfl)) (by decide) (backOf (W := 0) (own_get16_15 l Z a0 hw [] b304 b306_o0 k306_o1 (0 : Int32) (0 : Int32) (0 : Int32) (0 : Int32) (0 : Int32) (0 : Int32) (0 : Int32) (0 : Int32) (0 : Int32) (0 : Int32) (0 : Int32) (0 : Int32) (0 : Int32) p3 p1 p2 T320.heap n0 Z321 P320_1 P320_3) hZ (own_w hw 39 rfl) (own_w hw 3 rfl) (by decide) (by decide)) q324a q324c (g := (mkF m 116 #[iv p1, iv p2, iv p3, iv p4, iv 14, rv b304, iv 1] [.int 15, .ref b304])) rfl (by rw [hml]; rfl) (Steps.refl _) (argsL := [(.int (15 : Int32))]) (rest := []) (lenOf own_pd_2 rfl) rfl (by show 2 * 0 + _ ≤ _; exact Nat.le_of_eq rfl) (hb hby at_116) (fun _ _ => ⟨rfl, e323, (by decide : 2 + 0 ≤ _), (by decide : 18 + 0 ≤ _)⟩)
    dsimp only [Pt.U, Pt.locs, Pt.cells, Pt.slots] at X324 l324 y324 z324 st324 hQ324
    subst l324 y324 z324
    obtain ⟨hR324, e324, rfl⟩ := hQ324
    have N324 := Fr.app N323 (Fr.nil n0)
    obtain rfl := hR324
    refine own_tr st324 ?_
    show own_E p e below _ T324 (mkF m 119 #[iv p1, iv p2, iv p3, iv p4, iv 14, rv b304, iv 1] [.int p2])
    refine own_st (fun t k => XS.iloadN X324.here hx rfl (hb hby at_119) rfl k) ?_
    show own_E p e below _ T324 (mkF m 120 #[iv p1, iv p2, iv p3, iv p4, iv 14, rv b304, iv 1] [.int p2, .int p2])
    refine own_st (fun t k => XS.icmpNo X324.here hx rfl (hb hby at_120) rfl (teq rfl).2 k) ?_
    show own_E p e below _ T324 (mkF m 123 #[iv p1, iv p2, iv p3, iv p4, iv 14, rv b304, iv 1] [])
    refine own_st (fun t k => XS.iconst X324.here hx rfl (hb hby at_123) k) ?_
    show own_E p e below _ T324 (mkF m 124 #[iv p1, iv p2, iv p3, iv p4, iv 14, rv b304, iv 1] [.int 1])
    refine own_st (fun t k => XS.goto X324.here hx rfl (pc0 := 124) (pc' := 128) rfl (hb hby at_124) (by decide) (by decide) k) ?_
    show own_E p e below _ T324 (mkF m 128 #[iv p1, iv p2, iv p3, iv p4, iv 14, rv b304, iv 1] [.int 1])
    refine own_st (fun t k => XS.istore X324.here hx rfl (hb hby at_128) rfl (l' := #[iv p1, iv p2, iv p3, iv p4, iv 14, rv b304, iv 1]) rfl k) ?_
    show own_E p e below _ T324 (mkF m 130 #[iv p1, iv p2, iv p3, iv p4, iv 14, rv b304, iv 1] [])
    refine own_st (fun t k => XS.iload X324.here hx rfl (hb hby at_130) rfl k) ?_
    show own_E p e below _ T324 (mkF m 132 #[iv p1, iv p2, iv p3, iv p4, iv 14, rv b304, iv 1] [.int 14])
    refine own_st (fun t k => XS.ifNo X324.here hx rfl (hb hby at_132) rfl (by decide) k) ?_
    show own_E p e below _ T324 (mkF m 135 #[iv p1, iv p2, iv p3, iv p4, iv 14, rv b304, iv 1] [])
    refine own_st (fun t k => XS.iload X324.here hx rfl (hb hby at_135) rfl k) ?_
    show own_E p e below _ T324 (mkF m 137 #[iv p1, iv p2, iv p3, iv p4, iv 14, rv b304, iv 1] [.int 1])
    refine own_st (fun t k => XS.ifNo X324.here hx rfl (hb hby at_137) rfl (by decide) k) ?_
    show own_E p e below _ T324 (mkF m 140 #[iv p1, iv p2, iv p3, iv p4, iv 14, rv b304, iv 1] [])
    refine own_st (fun t k => XS.aload X324.here hx rfl (hb hby at_140) rfl rfl k) ?_
    show own_E p e below _ T324 (mkF m 142 #[iv p1, iv p2, iv p3, iv p4, iv 14, rv b304, iv 1] [.ref b304])
    refine own_st (fun t k => XS.iload X324.here hx rfl (hb hby at_142) rfl k) ?_
    show own_E p e below _ T324 (mkF m 144 #[iv p1, iv p2, iv p3, iv p4, iv 14, rv b304, iv 1] [.int 14, .ref b304])
    refine own_st (fun t k => XS.iconst X324.here hx rfl (hb hby at_144) k) ?_
    show own_E p e below _ T324 (mkF m 145 #[iv p1, iv p2, iv p3, iv p4, iv 14, rv b304, iv 1] [.int 1, .int 14, .ref b304])
    refine own_st (fun t k => XS.isub X324.here hx rfl (hb hby at_145) rfl k) ?_
    show own_E p e below _ T324 (mkF m 146 #[iv p1, iv p2, iv p3, iv p4, iv 14, rv b304, iv 1] [.int 13, .ref b304])
    obtain ⟨cq325, kq325, q325a, q325b, q325c⟩ := isOf hZ e324 P320_0
    obtain ⟨_, _, ⟨T325, L325, k325, n325⟩, -, X325, ⟨Lc325, hQ325, l325, y325, z325⟩, st325⟩ := X324.virtualBack hx (y := own_y6) (z := own_y6) hown (mvT hZ (own_w hw 35 rfl)) (mvT hZ (own_w hw 36 rfl)) (notFace_of_selects (args := #[]) (mvT hZ (own_w hw 38 rfl))) (mvT hZ (own_w hw 38 rfl)) (mvT hZ (own_w hw 37 rfl)) (by decide) (backOf (W := 0) (own_get16_13 l Z a0 hw [] b304 b306_o0 k306_o1 (0 : Int32) (0 : Int32) (0 : Int32) (0 : Int32) (0 : Int32) (0 : Int32) (0 : Int32) (0 : Int32) (0 : Int32) (0 : Int32) (0 : Int32) (0 : Int32) (0 : Int32) p3 p1 p2 T320.heap n0 Z321 P320_1 P320_3) hZ (own_w hw 39 rfl) (own_w hw 3 rfl) (by decide) (by decide)) q325a q325c (g := (mkF m 146 #[iv p1, iv p2, iv p3, iv p4, iv 14, rv b304, iv 1] [.int 13, .ref b304])) rfl (by rw [hml]; rfl) (Steps.refl _) (argsL := [(.int (13 : Int32))]) (rest := []) (lenOf own_pd_2 rfl) rfl (by show 2 * 0 + _ ≤ _; exact Nat.le_of_eq rfl) (hb hby at_146) (fun _ _ => ⟨rfl, e324, (by decide : 2 + 0 ≤ _), (by decide : 18 + 0 ≤ _)⟩)
    dsimp only [Pt.U, Pt.locs, Pt.cells, Pt.slots] at X325 l325 y325 z325 st325 hQ325
    subst l325 y325 z325
    obtain ⟨hR325, e325, rfl⟩ := hQ325
    have N325 := Fr.app N324 (Fr.nil n0)
    obtain rfl := hR325
    refine own_tr st325 ?_
    show own_E p e below _ T325 (mkF m 149 #[iv p1, iv p2, iv p3, iv p4, iv 14, rv b304, iv 1] [.int p3])
    refine own_st (fun t k => XS.iloadN X325.here hx rfl (hb hby at_149) rfl k) ?_
    show own_E p e below _ T325 (mkF m 150 #[iv p1, iv p2, iv p3, iv p4, iv 14, rv b304, iv 1] [.int p3, .int p3])
    refine own_st (fun t k => XS.icmpNo X325.here hx rfl (hb hby at_150) rfl (teq rfl).2 k) ?_
    show own_E p e below _ T325 (mkF m 153 #[iv p1, iv p2, iv p3, iv p4, iv 14, rv b304, iv 1] [])
    refine own_st (fun t k => XS.iconst X325.here hx rfl (hb hby at_153) k) ?_
    show own_E p e below _ T325 (mkF m 154 #[iv p1, iv p2, iv p3, iv p4, iv 14, rv b304, iv 1] [.int 1])
    refine own_st (fun t k => XS.goto X325.here hx rfl (pc0 := 154) (pc' := 158) rfl (hb hby at_154) (by decide) (by decide) k) ?_
    show own_E p e below _ T325 (mkF m 158 #[iv p1, iv p2, iv p3, iv p4, iv 14, rv b304, iv 1] [.int 1])
    refine own_st (fun t k => XS.istore X325.here hx rfl (hb hby at_158) rfl (l' := #[iv p1, iv p2, iv p3, iv p4, iv 14, rv b304, iv 1]) rfl k) ?_
    show own_E p e below _ T325 (mkF m 160 #[iv p1, iv p2, iv p3, iv p4, iv 14, rv b304, iv 1] [])
    refine own_st (fun t k => XS.iload X325.here hx rfl (hb hby at_160) rfl k) ?_
    show own_E p e below _ T325 (mkF m 162 #[iv p1, iv p2, iv p3, iv p4, iv 14, rv b304, iv 1] [.int 1])
    refine own_retS X325 hx Bd.notSynchronized Bd.returns rfl (by decide) (hb hby at_162) (by decide) (by decide) ?_
    exact ⟨rfl, N325⟩
  · rw [hs1]
    show own_E p e below _ s₁ (mkF m 9 #[iv p1, iv p2, iv p3, iv p4, iv 15, .unset, .unset] [])
    obtain ⟨T326, h326, X326, e326, E326, A326, D326, -, st326⟩ := newO X0 hx hZ hown (own_w hw 1 rfl) (own_w hw 2 rfl) (own_w hw 3 rfl) e0 (g := (mkF m 9 #[iv p1, iv p2, iv p3, iv p4, iv 15, .unset, .unset] [])) rfl (hb hby at_9) (by decide) (by decide)
    obtain ⟨b326, g326⟩ : ∃ z, z = h0.size := ⟨_, rfl⟩
    rw [← g326] at A326 D326 st326
    have g_b326 : n0 ≤ b326 := Nat.le_trans Z0 (Nat.le_of_eq g326.symm)
    have Z327 := Nat.le_trans Z0 E326.1
    have F_values_b326 : Fld Z h326 b326 "com/example/kalchas/kalchas/IntList" "values" "[I" .null := D326 (Or.inl (own_w hw 12 rfl)) (ty := (.array .int)) (by decide)
    have F_size_b326 : Fld Z h326 b326 "com/example/kalchas/kalchas/IntList" "size" "I" (.int (0 : Int32)) := D326 (Or.inl (own_w hw 19 rfl)) (ty := .int) (by decide)
    refine own_st st326 ?_
    show own_E p e below _ T326 (mkF m 12 #[iv p1, iv p2, iv p3, iv p4, iv 15, .unset, .unset] [.ref b326])
    refine own_st (fun t k => XS.dup X326.here hx rfl (hb hby at_12) rfl rfl k) ?_
    show own_E p e below _ T326 (mkF m 13 #[iv p1, iv p2, iv p3, iv p4, iv 15, .unset, .unset] [.ref b326, .ref b326])
    obtain ⟨_, _, ⟨T328, L328, k328, n328⟩, -, X328, ⟨Lc328, hQ328, l328, y328, z328⟩, st328⟩ := X326.specialBack hx (y := own_y2) rfl hown (mvT hZ (own_w hw 4 rfl)) (mvT hZ (own_w hw 5 rfl)) (mvT hZ (own_w hw 6 rfl)) (by decide) (backOf (W := 1) (own_init l Z a0 hw [] b326 h326 n0 Z327 A326 F_values_b326 F_size_b326 g_b326) hZ (own_w hw 6 rfl) (own_w hw 3 rfl) (by decide) (by decide)) (g := (mkF m 13 #[iv p1, iv p2, iv p3, iv p4, iv 15, .unset, .unset] [.ref b326, .ref b326])) rfl (by rw [hml]; rfl) (Steps.refl _) (a := b326) (argsL := []) (rest := [(.ref b326)]) (lenOf own_pd_1 rfl) rfl (by show 2 * 0 + _ ≤ _; exact Nat.le_of_eq rfl) (hb hby at_13) (fun _ _ => ⟨rfl, e326, (by decide : 1 + 1 ≤ _), (by decide : 2 + 16 ≤ _)⟩)
    dsimp only [Pt.U, Pt.locs, Pt.cells, Pt.slots] at X328 l328 y328 z328 st328 hQ328
    subst l328 y328 z328
    obtain ⟨b328_o0, k328_o1, rfl, Nq328, Kq328, sz328_0, P328_0, P328_1, P328_2, P328_3⟩ := hQ328
    have N328 := Fr.app (Fr.nil n0) Nq328
    have ne_b326_b328_o0 : b326 ≠ b328_o0 := Nat.ne_of_lt (Nat.lt_of_lt_of_le A326.lt sz328_0)
    have g_b328_o0 : n0 ≤ b328_o0 := Nat.le_trans Z327 sz328_0
    have e328 : T328.heap = T328.heap := rfl
    have Z329 := Nat.le_trans Z327 Kq328.1
    refine own_tr st328 ?_
    show own_E p e below _ T328 (mkF m 16 #[iv p1, iv p2, iv p3, iv p4, iv 15, .unset, .unset] [.ref b326])
    refine own_st (fun t k => XS.astore X328.here hx rfl (hb hby at_16) rfl rfl (l' := #[iv p1, iv p2, iv p3, iv p4, iv 15, rv b326, .unset]) rfl k) ?_
    show own_E p e below _ T328 (mkF m 18 #[iv p1, iv p2, iv p3, iv p4, iv 15, rv b326, .unset] [])
    refine own_st (fun t k => XS.aload X328.here hx rfl (hb hby at_18) rfl rfl k) ?_
    show own_E p e below _ T328 (mkF m 20 #[iv p1, iv p2, iv p3, iv p4, iv 15, rv b326, .unset] [.ref b326])
    refine own_st (fun t k => XS.iload X328.here hx rfl (hb hby at_20) rfl k) ?_
    show own_E p e below _ T328 (mkF m 22 #[iv p1, iv p2, iv p3, iv p4, iv 15, rv b326, .unset] [.int 15, .ref b326])
    obtain ⟨cq330, kq330, q330a, q330b, q330c⟩ := isOf hZ e328 P328_0
    obtain ⟨_, _, ⟨T330, L330, k330, n330⟩, -, X330, ⟨Lc330, hQ330, l330, y330, z330⟩, st330⟩ := X328.virtualBack hx (y := own_y3) (z := own_y3) hown (mvT hZ (own_w hw 13 rfl)) (mvT hZ (own_w hw 14 rfl)) (notFace_of_selects (args := #[]) (mvT hZ (own_w hw 16 rfl))) (mvT hZ (own_w hw 16 rfl)) (mvT hZ (own_w hw 15 rfl)) (by decide) (backOf (W := 0) (own_trunc l Z a0 hw [] b326 b328_o0 (15 : Int32) (0 : Int32) T328.heap n0 Z329 P328_0 P328_1 P328_2 g_b326) hZ (own_w hw 17 rfl) (own_w hw 3 rfl) (by decide) (by decide)) q330a q330c (g := (mkF m 22 #[iv p1, iv p2, iv p3, iv p4, iv 15, rv b326, .unset] [.int 15, .ref b326])) rfl (by rw [hml]; rfl) (Steps.refl _) (argsL := [(.int (15 : Int32))]) (rest := []) (lenOf own_pd_3 rfl) rfl (by show 2 * 0 + _ ≤ _; exact Nat.le_of_eq rfl) (hb hby at_22) (fun _ _ => ⟨rfl, e328, (by decide : 2 + 0 ≤ _), (by decide : 18 + 0 ≤ _)⟩)
    dsimp only [Pt.U, Pt.locs, Pt.cells, Pt.slots] at X330 l330 y330 z330 st330 hQ330
    subst l330 y330 z330
    obtain ⟨rfl, Nq330, Kq330, P330_0, P330_1, P330_2⟩ := hQ330
    have N330 := Fr.app N328 Nq330
    have e330 : T330.heap = T330.heap := rfl
    have Z331 := Nat.le_trans Z329 Kq330.1
    refine own_tr st330 ?_
    show own_E p e below _ T330 (mkF m 25 #[iv p1, iv p2, iv p3, iv p4, iv 15, rv b326, .unset] [])
    refine own_st (fun t k => XS.iload X330.here hx rfl (hb hby at_25) rfl k) ?_
    show own_E p e below _ T330 (mkF m 27 #[iv p1, iv p2, iv p3, iv p4, iv 15, rv b326, .unset] [.int 15])
    refine own_st (fun t k => XS.ifNo X330.here hx rfl (hb hby at_27) rfl (by decide) k) ?_
    show own_E p e below _ T330 (mkF m 30 #[iv p1, iv p2, iv p3, iv p4, iv 15, rv b326, .unset] [])
    refine own_st (fun t k => XS.aload X330.here hx rfl (hb hby at_30) rfl rfl k) ?_
    show own_E p e below _ T330 (mkF m 32 #[iv p1, iv p2, iv p3, iv p4, iv 15, rv b326, .unset] [.ref b326])
    refine own_st (fun t k => XS.iload X330.here hx rfl (hb hby at_32) rfl k) ?_
    show own_E p e below _ T330 (mkF m 34 #[iv p1, iv p2, iv p3, iv p4, iv 15, rv b326, .unset] [.int 15, .ref b326])
    refine own_st (fun t k => XS.iconst X330.here hx rfl (hb hby at_34) k) ?_
    show own_E p e below _ T330 (mkF m 35 #[iv p1, iv p2, iv p3, iv p4, iv 15, rv b326, .unset] [.int 1, .int 15, .ref b326])
    refine own_st (fun t k => XS.isub X330.here hx rfl (hb hby at_35) rfl k) ?_
    show own_E p e below _ T330 (mkF m 36 #[iv p1, iv p2, iv p3, iv p4, iv 15, rv b326, .unset] [.int 14, .ref b326])
    refine own_st (fun t k => XS.iloadN X330.here hx rfl (hb hby at_36) rfl k) ?_
    show own_E p e below _ T330 (mkF m 37 #[iv p1, iv p2, iv p3, iv p4, iv 15, rv b326, .unset] [.int p3, .int 14, .ref b326])
    have B332 := (P328_3.keep Kq330 (ninS (Ne.symm ne_b326_b328_o0) nin0))
    obtain ⟨cq333, kq333, q333a, q333b, q333c⟩ := isOf hZ e330 P330_0
    obtain ⟨_, _, ⟨T333, L333, k333, n333⟩, -, X333, ⟨Lc333, hQ333, l333, y333, z333⟩, st333⟩ := X330.virtualBack hx (y := own_y4) (z := own_y4) hown (mvT hZ (own_w hw 20 rfl)) (mvT hZ (own_w hw 21 rfl)) (notFace_of_selects (args := #[]) (mvT hZ (own_w hw 23 rfl))) (mvT hZ (own_w hw 23 rfl)) (mvT hZ (own_w hw 22 rfl)) (by decide) (backOf (W := 0) (own_set14 l Z a0 hw [] b326 b328_o0 k328_o1 p3 (0 : Int32) (0 : Int32) (0 : Int32) (0 : Int32) (0 : Int32) (0 : Int32) (0 : Int32) (0 : Int32) (0 : Int32) (0 : Int32) (0 : Int32) (0 : Int32) (0 : Int32) (0 : Int32) (0 : Int32) (0 : Int32) T330.heap n0 Z331 P330_1 B332 ne_b326_b328_o0 g_b328_o0) hZ (own_w hw 24 rfl) (own_w hw 3 rfl) (by decide) (by decide)) q333a q333c (g := (mkF m 37 #[iv p1, iv p2, iv p3, iv p4, iv 15, rv b326, .unset] [.int p3, .int 14, .ref b326])) rfl (by rw [hml]; rfl) (Steps.refl _) (argsL := [(.int (14 : Int32)), (.int p3)]) (rest := []) (lenOf own_pd_5 rfl) rfl (by show 2 * 0 + _ ≤ _; exact Nat.le_of_eq rfl) (hb hby at_37) (fun _ _ => ⟨rfl, e330, (by decide : 2 + 0 ≤ _), (by decide : 18 + 0 ≤ _)⟩)
    dsimp only [Pt.U, Pt.locs, Pt.cells, Pt.slots] at X333 l333 y333 z333 st333 hQ333
    subst l333 y333 z333
    obtain ⟨rfl, Nq333, Kq333, P333_0⟩ := hQ333
    have N333 := Fr.app N330 Nq333
    have e333 : T333.heap = T333.heap := rfl
    have Z334 := Nat.le_trans Z331 Kq333.1
    refine own_tr st333 ?_
    show own_E p e below _ T333 (mkF m 40 #[iv p1, iv p2, iv p3, iv p4, iv 15, rv b326, .unset] [])
    refine own_st (fun t k => XS.aload X333.here hx rfl (hb hby at_40) rfl rfl k) ?_
    show own_E p e below _ T333 (mkF m 42 #[iv p1, iv p2, iv p3, iv p4, iv 15, rv b326, .unset] [.ref b326])
    refine own_st (fun t k => XS.iloadN X333.here hx rfl (hb hby at_42) rfl k) ?_
    show own_E p e below _ T333 (mkF m 43 #[iv p1, iv p2, iv p3, iv p4, iv 15, rv b326, .unset] [.int p1, .ref b326])
    have B335 := (P330_0.keep Kq333)
    have B336 := (P330_1.keep Kq333 (ninS ne_b326_b328_o0 nin0))
    have B337 := (P330_2.keep Kq333 (ninS ne_b326_b328_o0 nin0))
    obtain ⟨cq338, kq338, q338a, q338b, q338c⟩ := isOf hZ e333 B335
    obtain ⟨_, _, ⟨T338, L338, k338, n338⟩, -, X338, ⟨Lc338, hQ338, l338, y338, z338⟩, st338⟩ := X333.virtualBack hx (y := own_y5) (z := own_y5) hown (mvT hZ (own_w hw 25 rfl)) (mvT hZ (own_w hw 26 rfl)) (notFace_of_selects (args := #[]) (mvT hZ (own_w hw 28 rfl))) (mvT hZ (own_w hw 28 rfl)) (mvT hZ (own_w hw 27 rfl)) (by decide) (backOf (W := 0) (own_add15 l Z a0 hw [] b326 b328_o0 k328_o1 p1 (0 : Int32) (0 : Int32) (0 : Int32) (0 : Int32) (0 : Int32) (0 : Int32) (0 : Int32) (0 : Int32) (0 : Int32) (0 : Int32) (0 : Int32) (0 : Int32) (0 : Int32) (0 : Int32) p3 (0 : Int32) T333.heap n0 Z334 B335 B336 B337 P333_0 ne_b326_b328_o0 g_b326 g_b328_o0) hZ (own_w hw 29 rfl) (own_w hw 3 rfl) (by decide) (by decide)) q338a q338c (g := (mkF m 43 #[iv p1, iv p2, iv p3, iv p4, iv 15, rv b326, .unset] [.int p1, .ref b326])) rfl (by rw [hml]; rfl) (Steps.refl _) (argsL := [(.int p1)]) (rest := []) (lenOf own_pd_3 rfl) rfl (by show 2 * 0 + _ ≤ _; exact Nat.le_of_eq rfl) (hb hby at_43) (fun _ _ => ⟨rfl, e333, (by decide : 2 + 0 ≤ _), (by decide : 18 + 0 ≤ _)⟩)
    dsimp only [Pt.U, Pt.locs, Pt.cells, Pt.slots] at X338 l338 y338 z338 st338 hQ338
    subst l338 y338 z338
    obtain ⟨rfl, Nq338, Kq338, P338_0, P338_1, P338_2, P338_3⟩ := hQ338
    have N338 := Fr.app N333 Nq338
    have e338 : T338.heap = T338.heap := rfl
    have Z339 := Nat.le_trans Z334 Kq338.1
    refine own_tr st338 ?_
    show own_E p e below _ T338 (mkF m 46 #[iv p1, iv p2, iv p3, iv p4, iv 15, rv b326, .unset] [])
    refine own_st (fun t k => XS.aload X338.here hx rfl (hb hby at_46) rfl rfl k) ?_
    show own_E p e below _ T338 (mkF m 48 #[iv p1, iv p2, iv p3, iv p4, iv 15, rv b326, .unset] [.ref b326])
    obtain ⟨cq340, kq340, q340a, q340b, q340c⟩ := isOf hZ e338 P338_0
    obtain ⟨_, _, ⟨T340, L340, k340, n340⟩, -, X340, ⟨Lc340, hQ340, l340, y340, z340⟩, st340⟩ := X338.virtualBack hx (y := own_y7) (z := own_y7) hown (mvT hZ (own_w hw 30 rfl)) (mvT hZ (own_w hw 31 rfl)) (notFace_of_selects (args := #[]) (mvT hZ (own_w hw 33 rfl))) (mvT hZ (own_w hw 33 rfl)) (mvT hZ (own_w hw 32 rfl)) (by decide) (backOf (W := 0) (own_size l Z a0 hw [] b326 (16 : Int32) T338.heap n0 Z339 P338_2) hZ (own_w hw 34 rfl) (own_w hw 3 rfl) (by decide) (by decide)) q340a q340c (g := (mkF m 48 #[iv p1, iv p2, iv p3, iv p4, iv 15, rv b326, .unset] [.ref b326])) rfl (by rw [hml]; rfl) (Steps.refl _) (argsL := []) (rest := []) (lenOf own_pd_0 rfl) rfl (by show 2 * 0 + _ ≤ _; exact Nat.le_of_eq rfl) (hb hby at_48) (fun _ _ => ⟨rfl, e338, (by decide : 2 + 0 ≤ _), (by decide : 18 + 0 ≤ _)⟩)
    dsimp only [Pt.U, Pt.locs, Pt.cells, Pt.slots] at X340 l340 y340 z340 st340 hQ340
    subst l340 y340 z340
    obtain ⟨hR340, e340, rfl⟩ := hQ340
    have N340 := Fr.app N338 (Fr.nil n0)
    obtain rfl := hR340
    refine own_tr st340 ?_
    show own_E p e below _ T340 (mkF m 51 #[iv p1, iv p2, iv p3, iv p4, iv 15, rv b326, .unset] [.int 16])
    refine own_st (fun t k => XS.iload X340.here hx rfl (hb hby at_51) rfl k) ?_
    show own_E p e below _ T340 (mkF m 53 #[iv p1, iv p2, iv p3, iv p4, iv 15, rv b326, .unset] [.int 15, .int 16])
    refine own_st (fun t k => XS.iconst X340.here hx rfl (hb hby at_53) k) ?_
    show own_E p e below _ T340 (mkF m 54 #[iv p1, iv p2, iv p3, iv p4, iv 15, rv b326, .unset] [.int 1, .int 15, .int 16])
    refine own_st (fun t k => XS.iadd X340.here hx rfl (hb hby at_54) rfl k) ?_
    show own_E p e below _ T340 (mkF m 55 #[iv p1, iv p2, iv p3, iv p4, iv 15, rv b326, .unset] [.int 16, .int 16])
    refine own_st (fun t k => XS.icmpNo X340.here hx rfl (hb hby at_55) rfl (by decide) k) ?_
    show own_E p e below _ T340 (mkF m 58 #[iv p1, iv p2, iv p3, iv p4, iv 15, rv b326, .unset] [])
    refine own_st (fun t k => XS.aload X340.here hx rfl (hb hby at_58) rfl rfl k) ?_
    show own_E p e below _ T340 (mkF m 60 #[iv p1, iv p2, iv p3, iv p4, iv 15, rv b326, .unset] [.ref b326])
    refine own_st (fun t k => XS.iload X340.here hx rfl (hb hby at_60) rfl k) ?_
    show own_E p e below _ T340 (mkF m 62 #[iv p1, iv p2, iv p3, iv p4, iv 15, rv b326, .unset] [.int 15, .ref b326])
    obtain ⟨cq341, kq341, q341a, q341b, q341c⟩ := isOf hZ e340 P338_0
    obtain ⟨_, _, ⟨T341, L341, k341, n341⟩, -, X341, ⟨Lc341, hQ341, l341, y341, z341⟩, st341⟩ := X340.virtualBack hx (y := own_y6) (z := own_y6) hown (mvT hZ (own_w hw 35 rfl)) (mvT hZ (own_w hw 36 rfl)) (notFace_of_selects (args := #[]) (mvT hZ (own_w hw 38 rfl))) (mvT hZ (own_w hw 38 rfl)) (mvT hZ (own_w hw 37 rfl)) (by decide) (backOf (W := 0) (own_get16_15 l Z a0 hw [] b326 b328_o0 k328_o1 (0 : Int32) (0 : Int32) (0 : Int32) (0 : Int32) (0 : Int32) (0 : Int32) (0 : Int32) (0 : Int32) (0 : Int32) (0 : Int32) (0 : Int32) (0 : Int32) (0 : Int32) (0 : Int32) p3 p1 T338.heap n0 Z339 P338_1 P338_3) hZ (own_w hw 39 rfl) (own_w hw 3 rfl) (by decide) (by decide)) q341a q341c (g := (mkF m 62 #[iv p1, iv p2, iv p3, iv p4, iv 15, rv b326, .unset] [.int 15, .ref b326])) rfl (by rw [hml]; rfl) (Steps.refl _) (argsL := [(.int (15 : Int32))]) (rest := []) (lenOf own_pd_2 rfl) rfl (by show 2 * 0 + _ ≤ _; exact Nat.le_of_eq rfl) (hb hby at_62) (fun _ _ => ⟨rfl, e340, (by decide : 2 + 0 ≤ _), (by decide : 18 + 0 ≤ _)⟩)
    dsimp only [Pt.U, Pt.locs, Pt.cells, Pt.slots] at X341 l341 y341 z341 st341 hQ341
    subst l341 y341 z341
    obtain ⟨hR341, e341, rfl⟩ := hQ341
    have N341 := Fr.app N340 (Fr.nil n0)
    obtain rfl := hR341
    refine own_tr st341 ?_
    show own_E p e below _ T341 (mkF m 65 #[iv p1, iv p2, iv p3, iv p4, iv 15, rv b326, .unset] [.int p1])
    refine own_st (fun t k => XS.iloadN X341.here hx rfl (hb hby at_65) rfl k) ?_
    show own_E p e below _ T341 (mkF m 66 #[iv p1, iv p2, iv p3, iv p4, iv 15, rv b326, .unset] [.int p1, .int p1])
    refine own_st (fun t k => XS.icmpNo X341.here hx rfl (hb hby at_66) rfl (teq rfl).2 k) ?_
    show own_E p e below _ T341 (mkF m 69 #[iv p1, iv p2, iv p3, iv p4, iv 15, rv b326, .unset] [])
    refine own_st (fun t k => XS.iconst X341.here hx rfl (hb hby at_69) k) ?_
    show own_E p e below _ T341 (mkF m 70 #[iv p1, iv p2, iv p3, iv p4, iv 15, rv b326, .unset] [.int 1])
    refine own_st (fun t k => XS.goto X341.here hx rfl (pc0 := 70) (pc' := 74) rfl (hb hby at_70) (by decide) (by decide) k) ?_
    show own_E p e below _ T341 (mkF m 74 #[iv p1, iv p2, iv p3, iv p4, iv 15, rv b326, .unset] [.int 1])
    refine own_st (fun t k => XS.istore X341.here hx rfl (hb hby at_74) rfl (l' := #[iv p1, iv p2, iv p3, iv p4, iv 15, rv b326, iv 1]) rfl k) ?_
    show own_E p e below _ T341 (mkF m 76 #[iv p1, iv p2, iv p3, iv p4, iv 15, rv b326, iv 1] [])
    refine own_st (fun t k => XS.aload X341.here hx rfl (hb hby at_76) rfl rfl k) ?_
    show own_E p e below _ T341 (mkF m 78 #[iv p1, iv p2, iv p3, iv p4, iv 15, rv b326, iv 1] [.ref b326])
    refine own_st (fun t k => XS.iloadN X341.here hx rfl (hb hby at_78) rfl k) ?_
    show own_E p e below _ T341 (mkF m 79 #[iv p1, iv p2, iv p3, iv p4, iv 15, rv b326, iv 1] [.int p2, .ref b326])
    obtain ⟨cq342, kq342, q342a, q342b, q342c⟩ := isOf hZ e341 P338_0
    obtain ⟨_, _, ⟨T342, L342, k342, n342⟩, -, X342, ⟨Lc342, hQ342, l342, y342, z342⟩, st342⟩ := X341.virtualBack hx (y := own_y5) (z := own_y5) hown (mvT hZ (own_w hw 25 rfl)) (mvT hZ (own_w hw 26 rfl)) (notFace_of_selects (args := #[]) (mvT hZ (own_w hw 28 rfl))) (mvT hZ (own_w hw 28 rfl)) (mvT hZ (own_w hw 27 rfl)) (by decide) (backOf (W := 0) (own_add16 l Z a0 hw [] b326 b328_o0 k328_o1 p2 (0 : Int32) (0 : Int32) (0 : Int32) (0 : Int32) (0 : Int32) (0 : Int32) (0 : Int32) (0 : Int32) (0 : Int32) (0 : Int32) (0 : Int32) (0 : Int32) (0 : Int32) (0 : Int32) p3 p1 T338.heap n0 Z339 P338_0 P338_1 P338_2 P338_3 ne_b326_b328_o0 g_b326) hZ (own_w hw 29 rfl) (own_w hw 3 rfl) (by decide) (by decide)) q342a q342c (g := (mkF m 79 #[iv p1, iv p2, iv p3, iv p4, iv 15, rv b326, iv 1] [.int p2, .ref b326])) rfl (by rw [hml]; rfl) (Steps.refl _) (argsL := [(.int p2)]) (rest := []) (lenOf own_pd_3 rfl) rfl (by show 2 * 0 + _ ≤ _; exact Nat.le_of_eq rfl) (hb hby at_79) (fun _ _ => ⟨rfl, e341, (by decide : 2 + 1 ≤ _), (by decide : 18 + 32 ≤ _)⟩)
    dsimp only [Pt.U, Pt.locs, Pt.cells, Pt.slots] at X342 l342 y342 z342 st342 hQ342
    subst l342 y342 z342
    obtain ⟨b342_o0, k342_o1, rfl, Nq342, Kq342, sz342_0, P342_0, P342_1, P342_2, P342_3⟩ := hQ342
    have N342 := Fr.app N341 Nq342
    have ne_b326_b342_o0 : b326 ≠ b342_o0 := Nat.ne_of_lt (Nat.lt_of_lt_of_le P338_0.lt sz342_0)
    have ne_b328_o0_b342_o0 : b328_o0 ≠ b342_o0 := Nat.ne_of_lt (Nat.lt_of_lt_of_le P338_3.lt sz342_0)
    have g_b342_o0 : n0 ≤ b342_o0 := Nat.le_trans Z339 sz342_0
    have e342 : T342.heap = T342.heap := rfl
    have Z343 := Nat.le_trans Z339 Kq342.1
    refine own_tr st342 ?_
    show own_E p e below _ T342 (mkF m 82 #[iv p1, iv p2, iv p3, iv p4, iv 15, rv b326, iv 1] [])
    refine own_st (fun t k => XS.iload X342.here hx rfl (hb hby at_82) rfl k) ?_
    show own_E p e below _ T342 (mkF m 84 #[iv p1, iv p2, iv p3, iv p4, iv 15, rv b326, iv 1] [.int 1])
    refine own_st (fun t k => XS.ifNo X342.here hx rfl (hb hby at_84) rfl (by decide) k) ?_
    show own_E p e below _ T342 (mkF m 87 #[iv p1, iv p2, iv p3, iv p4, iv 15, rv b326, iv 1] [])
    refine own_st (fun t k => XS.aload X342.here hx rfl (hb hby at_87) rfl rfl k) ?_
    show own_E p e below _ T342 (mkF m 89 #[iv p1, iv p2, iv p3, iv p4, iv 15, rv b326, iv 1] [.ref b326])
    obtain ⟨cq344, kq344, q344a, q344b, q344c⟩ := isOf hZ e342 P342_0
    obtain ⟨_, _, ⟨T344, L344, k344, n344⟩, -, X344, ⟨Lc344, hQ344, l344, y344, z344⟩, st344⟩ := X342.virtualBack hx (y := own_y7) (z := own_y7) hown (mvT hZ (own_w hw 30 rfl)) (mvT hZ (own_w hw 31 rfl)) (notFace_of_selects (args := #[]) (mvT hZ (own_w hw 33 rfl))) (mvT hZ (own_w hw 33 rfl)) (mvT hZ (own_w hw 32 rfl)) (by decide) (backOf (W := 0) (own_size l Z a0 hw [] b326 (17 : Int32) T342.heap n0 Z343 P342_2) hZ (own_w hw 34 rfl) (own_w hw 3 rfl) (by decide) (by decide)) q344a q344c (g := (mkF m 89 #[iv p1, iv p2, iv p3, iv p4, iv 15, rv b326, iv 1] [.ref b326])) rfl (by rw [hml]; rfl) (Steps.refl _) (argsL := []) (rest := []) (lenOf own_pd_0 rfl) rfl (by show 2 * 0 + _ ≤ _; exact Nat.le_of_eq rfl) (hb hby at_89) (fun _ _ => ⟨rfl, e342, (by decide : 3 + 0 ≤ _), (by decide : 50 + 0 ≤ _)⟩)
    dsimp only [Pt.U, Pt.locs, Pt.cells, Pt.slots] at X344 l344 y344 z344 st344 hQ344
    subst l344 y344 z344
    obtain ⟨hR344, e344, rfl⟩ := hQ344
    have N344 := Fr.app N342 (Fr.nil n0)
    obtain rfl := hR344
    refine own_tr st344 ?_
    show own_E p e below _ T344 (mkF m 92 #[iv p1, iv p2, iv p3, iv p4, iv 15, rv b326, iv 1] [.int 17])
    refine own_st (fun t k => XS.iload X344.here hx rfl (hb hby at_92) rfl k) ?_
    show own_E p e below _ T344 (mkF m 94 #[iv p1, iv p2, iv p3, iv p4, iv 15, rv b326, iv 1] [.int 15, .int 17])
    refine own_st (fun t k => XS.iconst X344.here hx rfl (hb hby at_94) k) ?_
    show own_E p e below _ T344 (mkF m 95 #[iv p1, iv p2, iv p3, iv p4, iv 15, rv b326, iv 1] [.int 2, .int 15, .int 17])
    refine own_st (fun t k => XS.iadd X344.here hx rfl (hb hby at_95) rfl k) ?_
    show own_E p e below _ T344 (mkF m 96 #[iv p1, iv p2, iv p3, iv p4, iv 15, rv b326, iv 1] [.int 17, .int 17])
    refine own_st (fun t k => XS.icmpNo X344.here hx rfl (hb hby at_96) rfl (by decide) k) ?_
    show own_E p e below _ T344 (mkF m 99 #[iv p1, iv p2, iv p3, iv p4, iv 15, rv b326, iv 1] [])
    refine own_st (fun t k => XS.aload X344.here hx rfl (hb hby at_99) rfl rfl k) ?_
    show own_E p e below _ T344 (mkF m 101 #[iv p1, iv p2, iv p3, iv p4, iv 15, rv b326, iv 1] [.ref b326])
    refine own_st (fun t k => XS.iload X344.here hx rfl (hb hby at_101) rfl k) ?_
    show own_E p e below _ T344 (mkF m 103 #[iv p1, iv p2, iv p3, iv p4, iv 15, rv b326, iv 1] [.int 15, .ref b326])
    obtain ⟨cq345, kq345, q345a, q345b, q345c⟩ := isOf hZ e344 P342_0
    obtain ⟨_, _, ⟨T345, L345, k345, n345⟩, -, X345, ⟨Lc345, hQ345, l345, y345, z345⟩, st345⟩ := X344.virtualBack hx (y := own_y6) (z := own_y6) hown (mvT hZ (own_w hw 35 rfl)) (mvT hZ (own_w hw 36 rfl)) (notFace_of_selects (args := #[]) (mvT hZ (own_w hw 38 rfl))) (mvT hZ (own_w hw 38 rfl)) (mvT hZ (own_w hw 37 rfl)) (by decide) (backOf (W := 0) (own_get32_15 l Z a0 hw [] b326 b342_o0 k342_o1 (0 : Int32) (0 : Int32) (0 : Int32) (0 : Int32) (0 : Int32) (0 : Int32) (0 : Int32) (0 : Int32) (0 : Int32) (0 : Int32) (0 : Int32) (0 : Int32) (0 : Int32) (0 : Int32) p3 p1 p2 (0 : Int32) (0 : Int32) (0 : Int32) (0 : Int32) (0 : Int32) (0 : Int32) (0 : Int32) (0 : Int32) (0 : Int32) (0 : Int32) (0 : Int32) (0 : Int32) (0 : Int32) (0 : Int32) (0 : Int32) T342.heap n0 Z343 P342_1 P342_3) hZ (own_w hw 39 rfl) (own_w hw 3 rfl) (by decide) (by decide)) q345a q345c (g := (mkF m 103 #[iv p1, iv p2, iv p3, iv p4, iv 15, rv b326, iv 1] [.int 15, .ref b326])) rfl (by rw [hml]; rfl) (Steps.refl _) (argsL := [(.int (15 : Int32))]) (rest := []) (lenOf own_pd_2 rfl) rfl (by show 2 * 0 + _ ≤ _; exact Nat.le_of_eq rfl) (hb hby at_103) (fun _ _ => ⟨rfl, e344, (by decide : 3 + 0 ≤ _), (by decide : 50 + 0 ≤ _)⟩)
    dsimp only [Pt.U, Pt.locs, Pt.cells, Pt.slots] at X345 l345 y345 z345 st345 hQ345
    subst l345 y345 z345
    obtain ⟨hR345, e345, rfl⟩ := hQ345
    have N345 := Fr.app N344 (Fr.nil n0)
    obtain rfl := hR345
    refine own_tr st345 ?_
    show own_E p e below _ T345 (mkF m 106 #[iv p1, iv p2, iv p3, iv p4, iv 15, rv b326, iv 1] [.int p1])
    refine own_st (fun t k => XS.iloadN X345.here hx rfl (hb hby at_106) rfl k) ?_
    show own_E p e below _ T345 (mkF m 107 #[iv p1, iv p2, iv p3, iv p4, iv 15, rv b326, iv 1] [.int p1, .int p1])
    refine own_st (fun t k => XS.icmpNo X345.here hx rfl (hb hby at_107) rfl (teq rfl).2 k) ?_
    show own_E p e below _ T345 (mkF m 110 #[iv p1, iv p2, iv p3, iv p4, iv 15, rv b326, iv 1] [])
    refine own_st (fun t k => XS.aload X345.here hx rfl (hb hby at_110) rfl rfl k) ?_
    show own_E p e below _ T345 (mkF m 112 #[iv p1, iv p2, iv p3, iv p4, iv 15, rv b326, iv 1] [.ref b326])
    refine own_st (fun t k => XS.iload X345.here hx rfl (hb hby at_112) rfl k) ?_
    show own_E p e below _ T345 (mkF m 114 #[iv p1, iv p2, iv p3, iv p4, iv 15, rv b326, iv 1] [.int 15, .ref b326])
    refine own_st (fun t k => XS.iconst X345.here hx rfl (hb hby at_114) k) ?_
    show own_E p e below _ T345 (mkF m 115 #[iv p1, iv p2, iv p3, iv p4, iv 15, rv b326, iv 1] [.int 1, .int 15, .ref b326])
    refine own_st (fun t k => XS.iadd X345.here hx rfl (hb hby at_115) rfl k) ?_
    show own_E p e below _ T345 (mkF m 116 #[iv p1, iv p2, iv p3, iv p4, iv 15, rv b326, iv 1] [.int 16, .ref b326])
    obtain ⟨cq346, kq346, q346a, q346b, q346c⟩ := isOf hZ e345 P342_0
    obtain ⟨_, _, ⟨T346, L346, k346, n346⟩, -, X346, ⟨Lc346, hQ346, l346, y346, z346⟩, st346⟩ := X345.virtualBack hx (y := own_y6) (z := own_y6) hown (mvT hZ (own_w hw 35 rfl)) (mvT hZ (own_w hw 36 rfl)) (notFace_of_selects (args := #[]) (mvT hZ (own_w hw 38 rfl))) (mvT hZ (own_w hw 38 rfl)) (mvT hZ (own_w hw 37 rfl)) (by decide) (backOf (W := 0) (own_get32_16 l Z a0 hw [] b326 b342_o0 k342_o1 (0 : Int32) (0 : Int32) (0 : Int32) (0 : Int32) (0 : Int32) (0 : Int32) (0 : Int32) (0 : Int32) (0 : Int32) (0 : Int32) (0 : Int32) (0 : Int32) (0 : Int32) (0 : Int32) p3 p1 p2 (0 : Int32) (0 : Int32) (0 : Int32) (0 : Int32) (0 : Int32) (0 : Int32) (0 : Int32) (0 : Int32) (0 : Int32) (0 : Int32) (0 : Int32) (0 : Int32) (0 : Int32) (0 : Int32) (0 : Int32) T342.heap n0 Z343 P342_1 P342_3) hZ (own_w hw 39 rfl) (own_w hw 3 rfl) (by decide) (by decide)) q346a q346c (g := (mkF m 116 #[iv p1, iv p2, iv p3, iv p4, iv 15, rv b326, iv 1] [.int 16, .ref b326])) rfl (by rw [hml]; rfl) (Steps.refl _) (argsL := [(.int (16 : Int32))]) (rest := []) (lenOf own_pd_2 rfl) rfl (by show 2 * 0 + _ ≤ _; exact Nat.le_of_eq rfl) (hb hby at_116) (fun _ _ => ⟨rfl, e345, (by decide : 3 + 0 ≤ _), (by decide : 50 + 0 ≤ _)⟩)
    dsimp only [Pt.U, Pt.locs, Pt.cells, Pt.slots] at X346 l346 y346 z346 st346 hQ346
    subst l346 y346 z346
    obtain ⟨hR346, e346, rfl⟩ := hQ346
    have N346 := Fr.app N345 (Fr.nil n0)
    obtain rfl := hR346
    refine own_tr st346 ?_
    show own_E p e below _ T346 (mkF m 119 #[iv p1, iv p2, iv p3, iv p4, iv 15, rv b326, iv 1] [.int p2])
    refine own_st (fun t k => XS.iloadN X346.here hx rfl (hb hby at_119) rfl k) ?_
    show own_E p e below _ T346 (mkF m 120 #[iv p1, iv p2, iv p3, iv p4, iv 15, rv b326, iv 1] [.int p2, .int p2])
    refine own_st (fun t k => XS.icmpNo X346.here hx rfl (hb hby at_120) rfl (teq rfl).2 k) ?_
    show own_E p e below _ T346 (mkF m 123 #[iv p1, iv p2, iv p3, iv p4, iv 15, rv b326, iv 1] [])
    refine own_st (fun t k => XS.iconst X346.here hx rfl (hb hby at_123) k) ?_
    show own_E p e below _ T346 (mkF m 124 #[iv p1, iv p2, iv p3, iv p4, iv 15, rv b326, iv 1] [.int 1])
    refine own_st (fun t k => XS.goto X346.here hx rfl (pc0 := 124) (pc' := 128) rfl (hb hby at_124) (by decide) (by decide) k) ?_
    show own_E p e below _ T346 (mkF m 128 #[iv p1, iv p2, iv p3, iv p4, iv 15, rv b326, iv 1] [.int 1])
    refine own_st (fun t k => XS.istore X346.here hx rfl (hb hby at_128) rfl (l' := #[iv p1, iv p2, iv p3, iv p4, iv 15, rv b326, iv 1]) rfl k) ?_
    show own_E p e below _ T346 (mkF m 130 #[iv p1, iv p2, iv p3, iv p4, iv 15, rv b326, iv 1] [])
    refine own_st (fun t k => XS.iload X346.here hx rfl (hb hby at_130) rfl k) ?_
    show own_E p e below _ T346 (mkF m 132 #[iv p1, iv p2, iv p3, iv p4, iv 15, rv b326, iv 1] [.int 15])
    refine own_st (fun t k => XS.ifNo X346.here hx rfl (hb hby at_132) rfl (by decide) k) ?_
    show own_E p e below _ T346 (mkF m 135 #[iv p1, iv p2, iv p3, iv p4, iv 15, rv b326, iv 1] [])
    refine own_st (fun t k => XS.iload X346.here hx rfl (hb hby at_135) rfl k) ?_
    show own_E p e below _ T346 (mkF m 137 #[iv p1, iv p2, iv p3, iv p4, iv 15, rv b326, iv 1] [.int 1])
    refine own_st (fun t k => XS.ifNo X346.here hx rfl (hb hby at_137) rfl (by decide) k) ?_
    show own_E p e below _ T346 (mkF m 140 #[iv p1, iv p2, iv p3, iv p4, iv 15, rv b326, iv 1] [])
    refine own_st (fun t k => XS.aload X346.here hx rfl (hb hby at_140) rfl rfl k) ?_
    show own_E p e below _ T346 (mkF m 142 #[iv p1, iv p2, iv p3, iv p4, iv 15, rv b326, iv 1] [.ref b326])
    refine own_st (fun t k => XS.iload X346.here hx rfl (hb hby at_142) rfl k) ?_
    show own_E p e below _ T346 (mkF m 144 #[iv p1, iv p2, iv p3, iv p4, iv 15, rv b326, iv 1] [.int 15, .ref b326])
    refine own_st (fun t k => XS.iconst X346.here hx rfl (hb hby at_144) k) ?_
    show own_E p e below _ T346 (mkF m 145 #[iv p1, iv p2, iv p3, iv p4, iv 15, rv b326, iv 1] [.int 1, .int 15, .ref b326])
    refine own_st (fun t k => XS.isub X346.here hx rfl (hb hby at_145) rfl k) ?_
    show own_E p e below _ T346 (mkF m 146 #[iv p1, iv p2, iv p3, iv p4, iv 15, rv b326, iv 1] [.int 14, .ref b326])
    obtain ⟨cq347, kq347, q347a, q347b, q347c⟩ := isOf hZ e346 P342_0
    obtain ⟨_, _, ⟨T347, L347, k347, n347⟩, -, X347, ⟨Lc347, hQ347, l347, y347, z347⟩, st347⟩ := X346.virtualBack hx (y := own_y6) (z := own_y6) hown (mvT hZ (own_w hw 35 rfl)) (mvT hZ (own_w hw 36 rfl)) (notFace_of_selects (args := #[]) (mvT hZ (own_w hw 38 rfl))) (mvT hZ (own_w hw 38 rfl)) (mvT hZ (own_w hw 37 rfl)) (by decide) (backOf (W := 0) (own_get32_14 l Z a0 hw [] b326 b342_o0 k342_o1 (0 : Int32) (0 : Int32) (0 : Int32) (0 : Int32) (0 : Int32) (0 : Int32) (0 : Int32) (0 : Int32) (0 : Int32) (0 : Int32) (0 : Int32) (0 : Int32) (0 : Int32) (0 : Int32) p3 p1 p2 (0 : Int32) (0 : Int32) (0 : Int32) (0 : Int32) (0 : Int32) (0 : Int32) (0 : Int32) (0 : Int32) (0 : Int32) (0 : Int32) (0 : Int32) (0 : Int32) (0 : Int32) (0 : Int32) (0 : Int32) T342.heap n0 Z343 P342_1 P342_3) hZ (own_w hw 39 rfl) (own_w hw 3 rfl) (by decide) (by decide)) q347a q347c (g := (mkF m 146 #[iv p1, iv p2, iv p3, iv p4, iv 15, rv b326, iv 1] [.int 14, .ref b326])) rfl (by rw [hml]; rfl) (Steps.refl _) (argsL := [(.int (14 : Int32))]) (rest := []) (lenOf own_pd_2 rfl) rfl (by show 2 * 0 + _ ≤ _; exact Nat.le_of_eq rfl) (hb hby at_146) (fun _ _ => ⟨rfl, e346, (by decide : 3 + 0 ≤ _), (by decide : 50 + 0 ≤ _)⟩)
    dsimp only [Pt.U, Pt.locs, Pt.cells, Pt.slots] at X347 l347 y347 z347 st347 hQ347
    subst l347 y347 z347
    obtain ⟨hR347, e347, rfl⟩ := hQ347
    have N347 := Fr.app N346 (Fr.nil n0)
    obtain rfl := hR347
    refine own_tr st347 ?_
    show own_E p e below _ T347 (mkF m 149 #[iv p1, iv p2, iv p3, iv p4, iv 15, rv b326, iv 1] [.int p3])
    refine own_st (fun t k => XS.iloadN X347.here hx rfl (hb hby at_149) rfl k) ?_
    show own_E p e below _ T347 (mkF m 150 #[iv p1, iv p2, iv p3, iv p4, iv 15, rv b326, iv 1] [.int p3, .int p3])
    refine own_st (fun t k => XS.icmpNo X347.here hx rfl (hb hby at_150) rfl (teq rfl).2 k) ?_
    show own_E p e below _ T347 (mkF m 153 #[iv p1, iv p2, iv p3, iv p4, iv 15, rv b326, iv 1] [])
    refine own_st (fun t k => XS.iconst X347.here hx rfl (hb hby at_153) k) ?_
    show own_E p e below _ T347 (mkF m 154 #[iv p1, iv p2, iv p3, iv p4, iv 15, rv b326, iv 1] [.int 1])
    refine own_st (fun t k => XS.goto X347.here hx rfl (pc0 := 154) (pc' := 158) rfl (hb hby at_154) (by decide) (by decide) k) ?_
    show own_E p e below _ T347 (mkF m 158 #[iv p1, iv p2, iv p3, iv p4, iv 15, rv b326, iv 1] [.int 1])
    refine own_st (fun t k => XS.istore X347.here hx rfl (hb hby at_158) rfl (l' := #[iv p1, iv p2, iv p3, iv p4, iv 15, rv b326, iv 1]) rfl k) ?_
    show own_E p e below _ T347 (mkF m 160 #[iv p1, iv p2, iv p3, iv p4, iv 15, rv b326, iv 1] [])
    refine own_st (fun t k => XS.iload X347.here hx rfl (hb hby at_160) rfl k) ?_
    show own_E p e below _ T347 (mkF m 162 #[iv p1, iv p2, iv p3, iv p4, iv 15, rv b326, iv 1] [.int 1])
    refine own_retS X347 hx Bd.notSynchronized Bd.returns rfl (by decide) (hb hby at_162) (by decide) (by decide) ?_
    exact ⟨rfl, N347⟩
  · rw [hs1]
    show own_E p e below _ s₁ (mkF m 9 #[iv p1, iv p2, iv p3, iv p4, iv 16, .unset, .unset] [])
    obtain ⟨T348, h348, X348, e348, E348, A348, D348, -, st348⟩ := newO X0 hx hZ hown (own_w hw 1 rfl) (own_w hw 2 rfl) (own_w hw 3 rfl) e0 (g := (mkF m 9 #[iv p1, iv p2, iv p3, iv p4, iv 16, .unset, .unset] [])) rfl (hb hby at_9) (by decide) (by decide)
    obtain ⟨b348, g348⟩ : ∃ z, z = h0.size := ⟨_, rfl⟩
    rw [← g348] at A348 D348 st348
    have g_b348 : n0 ≤ b348 := Nat.le_trans Z0 (Nat.le_of_eq g348.symm)
    have Z349 := Nat.le_trans Z0 E348.1
    have F_values_b348 : Fld Z h348 b348 "com/example/kalchas/kalchas/IntList" "values" "[I" .null := D348 (Or.inl (own_w hw 12 rfl)) (ty := (.array .int)) (by decide)
    have F_size_b348 : Fld Z h348 b348 "com/example/kalchas/kalchas/IntList" "size" "I" (.int (0 : Int32)) := D348 (Or.inl (own_w hw 19 rfl)) (ty := .int) (by decide)
    refine own_st st348 ?_
    show own_E p e below _ T348 (mkF m 12 #[iv p1, iv p2, iv p3, iv p4, iv 16, .unset, .unset] [.ref b348])
    refine own_st (fun t k => XS.dup X348.here hx rfl (hb hby at_12) rfl rfl k) ?_
    show own_E p e below _ T348 (mkF m 13 #[iv p1, iv p2, iv p3, iv p4, iv 16, .unset, .unset] [.ref b348, .ref b348])
    obtain ⟨_, _, ⟨T350, L350, k350, n350⟩, -, X350, ⟨Lc350, hQ350, l350, y350, z350⟩, st350⟩ := X348.specialBack hx (y := own_y2) rfl hown (mvT hZ (own_w hw 4 rfl)) (mvT hZ (own_w hw 5 rfl)) (mvT hZ (own_w hw 6 rfl)) (by decide) (backOf (W := 1) (own_init l Z a0 hw [] b348 h348 n0 Z349 A348 F_values_b348 F_size_b348 g_b348) hZ (own_w hw 6 rfl) (own_w hw 3 rfl) (by decide) (by decide)) (g := (mkF m 13 #[iv p1, iv p2, iv p3, iv p4, iv 16, .unset, .unset] [.ref b348, .ref b348])) rfl (by rw [hml]; rfl) (Steps.refl _) (a := b348) (argsL := []) (rest := [(.ref b348)]) (lenOf own_pd_1 rfl) rfl (by show 2 * 0 + _ ≤ _; exact Nat.le_of_eq rfl) (hb hby at_13) (fun _ _ => ⟨rfl, e348, (by decide : 1 + 1 ≤ _), (by decide : 2 + 16 ≤ _)⟩)
    dsimp only [Pt.U, Pt.locs, Pt.cells, Pt.slots] at X350 l350 y350 z350 st350 hQ350
    subst l350 y350 z350
    obtain ⟨b350_o0, k350_o1, rfl, Nq350, Kq350, sz350_0, P350_0, P350_1, P350_2, P350_3⟩ := hQ350
    have N350 := Fr.app (Fr.nil n0) Nq350
    have ne_b348_b350_o0 : b348 ≠ b350_o0 := Nat.ne_of_lt (Nat.lt_of_lt_of_le A348.lt sz350_0)
    have g_b350_o0 : n0 ≤ b350_o0 := Nat.le_trans Z349 sz350_0
    have e350 : T350.heap = T350.heap := rfl
    have Z351 := Nat.le_trans Z349 Kq350.1
    refine own_tr st350 ?_
    show own_E p e below _ T350 (mkF m 16 #[iv p1, iv p2, iv p3, iv p4, iv 16, .unset, .unset] [.ref b348])
    refine own_st (fun t k => XS.astore X350.here hx rfl (hb hby at_16) rfl rfl (l' := #[iv p1, iv p2, iv p3, iv p4, iv 16, rv b348, .unset]) rfl k) ?_
    show own_E p e below _ T350 (mkF m 18 #[iv p1, iv p2, iv p3, iv p4, iv 16, rv b348, .unset] [])
    refine own_st (fun t k => XS.aload X350.here hx rfl (hb hby at_18) rfl rfl k) ?_
    show own_E p e below _ T350 (mkF m 20 #[iv p1, iv p2, iv p3, iv p4, iv 16, rv b348, .unset] [.ref b348])
    refine own_st (fun t k => XS.iload X350.here hx rfl (hb hby at_20) rfl k) ?_
    show own_E p e below _ T350 (mkF m 22 #[iv p1, iv p2, iv p3, iv p4, iv 16, rv b348, .unset] [.int 16, .ref b348])
    obtain ⟨cq352, kq352, q352a, q352b, q352c⟩ := isOf hZ e350 P350_0
    obtain ⟨_, _, ⟨T352, L352, k352, n352⟩, -, X352, ⟨Lc352, hQ352, l352, y352, z352⟩, st352⟩ := X350.virtualBack hx (y := own_y3) (z := own_y3) hown (mvT hZ (own_w hw 13 rfl)) (mvT hZ (own_w hw 14 rfl)) (notFace_of_selects (args := #[]) (mvT hZ (own_w hw 16 rfl))) (mvT hZ (own_w hw 16 rfl)) (mvT hZ (own_w hw 15 rfl)) (by decide) (backOf (W := 0) (own_trunc l Z a0 hw [] b348 b350_o0 (16 : Int32) (0 : Int32) T350.heap n0 Z351 P350_0 P350_1 P350_2 g_b348) hZ (own_w hw 17 rfl) (own_w hw 3 rfl) (by decide) (by decide)) q352a q352c (g := (mkF m 22 #[iv p1, iv p2, iv p3, iv p4, iv 16, rv b348, .unset] [.int 16, .ref b348])) rfl (by rw [hml]; rfl) (Steps.refl _) (argsL := [(.int (16 : Int32))]) (rest := []) (lenOf own_pd_3 rfl) rfl (by show 2 * 0 + _ ≤ _; exact Nat.le_of_eq rfl) (hb hby at_22) (fun _ _ => ⟨rfl, e350, (by decide : 2 + 0 ≤ _), (by decide : 18 + 0 ≤ _)⟩)
    dsimp only [Pt.U, Pt.locs, Pt.cells, Pt.slots] at X352 l352 y352 z352 st352 hQ352
    subst l352 y352 z352
    obtain ⟨rfl, Nq352, Kq352, P352_0, P352_1, P352_2⟩ := hQ352
    have N352 := Fr.app N350 Nq352
    have e352 : T352.heap = T352.heap := rfl
    have Z353 := Nat.le_trans Z351 Kq352.1
    refine own_tr st352 ?_
    show own_E p e below _ T352 (mkF m 25 #[iv p1, iv p2, iv p3, iv p4, iv 16, rv b348, .unset] [])
    refine own_st (fun t k => XS.iload X352.here hx rfl (hb hby at_25) rfl k) ?_
    show own_E p e below _ T352 (mkF m 27 #[iv p1, iv p2, iv p3, iv p4, iv 16, rv b348, .unset] [.int 16])
    refine own_st (fun t k => XS.ifNo X352.here hx rfl (hb hby at_27) rfl (by decide) k) ?_
    show own_E p e below _ T352 (mkF m 30 #[iv p1, iv p2, iv p3, iv p4, iv 16, rv b348, .unset] [])
    refine own_st (fun t k => XS.aload X352.here hx rfl (hb hby at_30) rfl rfl k) ?_
    show own_E p e below _ T352 (mkF m 32 #[iv p1, iv p2, iv p3, iv p4, iv 16, rv b348, .unset] [.ref b348])
    refine own_st (fun t k => XS.iload X352.here hx rfl (hb hby at_32) rfl k) ?_
    show own_E p e below _ T352 (mkF m 34 #[iv p1, iv p2, iv p3, iv p4, iv 16, rv b348, .unset] [.int 16, .ref b348])
    refine own_st (fun t k => XS.iconst X352.here hx rfl (hb hby at_34) k) ?_
    show own_E p e below _ T352 (mkF m 35 #[iv p1, iv p2, iv p3, iv p4, iv 16, rv b348, .unset] [.int 1, .int 16, .ref b348])
    refine own_st (fun t k => XS.isub X352.here hx rfl (hb hby at_35) rfl k) ?_
    show own_E p e below _ T352 (mkF m 36 #[iv p1, iv p2, iv p3, iv p4, iv 16, rv b348, .unset] [.int 15, .ref b348])
    refine own_st (fun t k => XS.iloadN X352.here hx rfl (hb hby at_36) rfl k) ?_
    show own_E p e below _ T352 (mkF m 37 #[iv p1, iv p2, iv p3, iv p4, iv 16, rv b348, .unset] [.int p3, .int 15, .ref b348])
    have B354 := (P350_3.keep Kq352 (ninS (Ne.symm ne_b348_b350_o0) nin0))
    obtain ⟨cq355, kq355, q355a, q355b, q355c⟩ := isOf hZ e352 P352_0
    obtain ⟨_, _, ⟨T355, L355, k355, n355⟩, -, X355, ⟨Lc355, hQ355, l355, y355, z355⟩, st355⟩ := X352.virtualBack hx (y := own_y4) (z := own_y4) hown (mvT hZ (own_w hw 20 rfl)) (mvT hZ (own_w hw 21 rfl)) (notFace_of_selects (args := #[]) (mvT hZ (own_w hw 23 rfl))) (mvT hZ (own_w hw 23 rfl)) (mvT hZ (own_w hw 22 rfl)) (by decide) (backOf (W := 0) (own_set15 l Z a0 hw [] b348 b350_o0 k350_o1 p3 (0 : Int32) (0 : Int32) (0 : Int32) (0 : Int32) (0 : Int32) (0 : Int32) (0 : Int32) (0 : Int32) (0 : Int32) (0 : Int32) (0 : Int32) (0 : Int32) (0 : Int32) (0 : Int32) (0 : Int32) (0 : Int32) T352.heap n0 Z353 P352_1 B354 ne_b348_b350_o0 g_b350_o0) hZ (own_w hw 24 rfl) (own_w hw 3 rfl) (by decide) (by decide)) q355a q355c (g := (mkF m 37 #[iv p1, iv p2, iv p3, iv p4, iv 16, rv b348, .unset] [.int p3, .int 15, .ref b348])) rfl (by rw [hml]; rfl) (Steps.refl _) (argsL := [(.int (15 : Int32)), (.int p3)]) (rest := []) (lenOf own_pd_5 rfl) rfl (by show 2 * 0 + _ ≤ _; exact Nat.le_of_eq rfl) (hb hby at_37) (fun _ _ => ⟨rfl, e352, (by decide : 2 + 0 ≤ _), (by decide : 18 + 0 ≤ _)⟩)
    dsimp only [Pt.U, Pt.locs, Pt.cells, Pt.slots] at X355 l355 y355 z355 st355 hQ355
    subst l355 y355 z355
    obtain ⟨rfl, Nq355, Kq355, P355_0⟩ := hQ355
    have N355 := Fr.app N352 Nq355
    have e355 : T355.heap = T355.heap := rfl
    have Z356 := Nat.le_trans Z353 Kq355.1
    refine own_tr st355 ?_
    show own_E p e below _ T355 (mkF m 40 #[iv p1, iv p2, iv p3, iv p4, iv 16, rv b348, .unset] [])
    refine own_st (fun t k => XS.aload X355.here hx rfl (hb hby at_40) rfl rfl k) ?_
    show own_E p e below _ T355 (mkF m 42 #[iv p1, iv p2, iv p3, iv p4, iv 16, rv b348, .unset] [.ref b348])
    refine own_st (fun t k => XS.iloadN X355.here hx rfl (hb hby at_42) rfl k) ?_
    show own_E p e below _ T355 (mkF m 43 #[iv p1, iv p2, iv p3, iv p4, iv 16, rv b348, .unset] [.int p1, .ref b348])
    have B357 := (P352_0.keep Kq355)
    have B358 := (P352_1.keep Kq355 (ninS ne_b348_b350_o0 nin0))
    have B359 := (P352_2.keep Kq355 (ninS ne_b348_b350_o0 nin0))
    obtain ⟨cq360, kq360, q360a, q360b, q360c⟩ := isOf hZ e355 B357
    obtain ⟨_, _, ⟨T360, L360, k360, n360⟩, -, X360, ⟨Lc360, hQ360, l360, y360, z360⟩, st360⟩ := X355.virtualBack hx (y := own_y5) (z := own_y5) hown (mvT hZ (own_w hw 25 rfl)) (mvT hZ (own_w hw 26 rfl)) (notFace_of_selects (args := #[]) (mvT hZ (own_w hw 28 rfl))) (mvT hZ (own_w hw 28 rfl)) (mvT hZ (own_w hw 27 rfl)) (by decide) (backOf (W := 0) (own_add16 l Z a0 hw [] b348 b350_o0 k350_o1 p1 (0 : Int32) (0 : Int32) (0 : Int32) (0 : Int32) (0 : Int32) (0 : Int32) (0 : Int32) (0 : Int32) (0 : Int32) (0 : Int32) (0 : Int32) (0 : Int32) (0 : Int32) (0 : Int32) (0 : Int32) p3 T355.heap n0 Z356 B357 B358 B359 P355_0 ne_b348_b350_o0 g_b348) hZ (own_w hw 29 rfl) (own_w hw 3 rfl) (by decide) (by decide)) q360a q360c (g := (mkF m 43 #[iv p1, iv p2, iv p3, iv p4, iv 16, rv b348, .unset] [.int p1, .ref b348])) rfl (by rw [hml]; rfl) (Steps.refl _) (argsL := [(.int p1)]) (rest := []) (lenOf own_pd_3 rfl) rfl (by show 2 * 0 + _ ≤ _; exact Nat.le_of_eq rfl) (hb hby at_43) (fun _ _ => ⟨rfl, e355, (by decide : 2 + 1 ≤ _), (by decide : 18 + 32 ≤ _)⟩)
    dsimp only [Pt.U, Pt.locs, Pt.cells, Pt.slots] at X360 l360 y360 z360 st360 hQ360
    subst l360 y360 z360
    obtain ⟨b360_o0, k360_o1, rfl, Nq360, Kq360, sz360_0, P360_0, P360_1, P360_2, P360_3⟩ := hQ360
    have N360 := Fr.app N355 Nq360
    have ne_b348_b360_o0 : b348 ≠ b360_o0 := Nat.ne_of_lt (Nat.lt_of_lt_of_le B357.lt sz360_0)
    have ne_b350_o0_b360_o0 : b350_o0 ≠ b360_o0 := Nat.ne_of_lt (Nat.lt_of_lt_of_le P355_0.lt sz360_0)
    have g_b360_o0 : n0 ≤ b360_o0 := Nat.le_trans Z356 sz360_0
    have e360 : T360.heap = T360.heap := rfl
    have Z361 := Nat.le_trans Z356 Kq360.1
    refine own_tr st360 ?_
    show own_E p e below _ T360 (mkF m 46 #[iv p1, iv p2, iv p3, iv p4, iv 16, rv b348, .unset] [])
    refine own_st (fun t k => XS.aload X360.here hx rfl (hb hby at_46) rfl rfl k) ?_
    show own_E p e below _ T360 (mkF m 48 #[iv p1, iv p2, iv p3, iv p4, iv 16, rv b348, .unset] [.ref b348])
    obtain ⟨cq362, kq362, q362a, q362b, q362c⟩ := isOf hZ e360 P360_0
    obtain ⟨_, _, ⟨T362, L362, k362, n362⟩, -, X362, ⟨Lc362, hQ362, l362, y362, z362⟩, st362⟩ := X360.virtualBack hx (y := own_y7) (z := own_y7) hown (mvT hZ (own_w hw 30 rfl)) (mvT hZ (own_w hw 31 rfl)) (notFace_of_selects (args := #[]) (mvT hZ (own_w hw 33 rfl))) (mvT hZ (own_w hw 33 rfl)) (mvT hZ (own_w hw 32 rfl)) (by decide) (backOf (W := 0) (own_size l Z a0 hw [] b348 (17 : Int32) T360.heap n0 Z361 P360_2) hZ (own_w hw 34 rfl) (own_w hw 3 rfl) (by decide) (by decide)) q362a q362c (g := (mkF m 48 #[iv p1, iv p2, iv p3, iv p4, iv 16, rv b348, .unset] [.ref b348])) rfl (by rw [hml]; rfl) (Steps.refl _) (argsL := []) (rest := []) (lenOf own_pd_0 rfl) rfl (by show 2 * 0 + _ ≤ _; exact Nat.le_of_eq rfl) (hb hby at_48) (fun _ _ => ⟨rfl, e360, (by decide : 3 + 0 ≤ _), (by decide : 50 + 0 ≤ _)⟩)
    dsimp only [Pt.U, Pt.locs, Pt.cells, Pt.slots] at X362 l362 y362 z362 st362 hQ362
    subst l362 y362 z362
    obtain ⟨hR362, e362, rfl⟩ := hQ362
    have N362 := Fr.app N360 (Fr.nil n0)
    obtain rfl := hR362
    refine own_tr st362 ?_
    show own_E p e below _ T362 (mkF m 51 #[iv p1, iv p2, iv p3, iv p4, iv 16, rv b348, .unset] [.int 17])
    refine own_st (fun t k => XS.iload X362.here hx rfl (hb hby at_51) rfl k) ?_
    show own_E p e below _ T362 (mkF m 53 #[iv p1, iv p2, iv p3, iv p4, iv 16, rv b348, .unset] [.int 16, .int 17])
    refine own_st (fun t k => XS.iconst X362.here hx rfl (hb hby at_53) k) ?_
    show own_E p e below _ T362 (mkF m 54 #[iv p1, iv p2, iv p3, iv p4, iv 16, rv b348, .unset] [.int 1, .int 16, .int 17])
    refine own_st (fun t k => XS.iadd X362.here hx rfl (hb hby at_54) rfl k) ?_
    show own_E p e below _ T362 (mkF m 55 #[iv p1, iv p2, iv p3, iv p4, iv 16, rv b348, .unset] [.int 17, .int 17])
    refine own_st (fun t k => XS.icmpNo X362.here hx rfl (hb hby at_55) rfl (by decide) k) ?_
    show own_E p e below _ T362 (mkF m 58 #[iv p1, iv p2, iv p3, iv p4, iv 16, rv b348, .unset] [])
    refine own_st (fun t k => XS.aload X362.here hx rfl (hb hby at_58) rfl rfl k) ?_
    show own_E p e below _ T362 (mkF m 60 #[iv p1, iv p2, iv p3, iv p4, iv 16, rv b348, .unset] [.ref b348])
    refine own_st (fun t k => XS.iload X362.here hx rfl (hb hby at_60) rfl k) ?_
    show own_E p e below _ T362 (mkF m 62 #[iv p1, iv p2, iv p3, iv p4, iv 16, rv b348, .unset] [.int 16, .ref b348])
    obtain ⟨cq363, kq363, q363a, q363b, q363c⟩ := isOf hZ e362 P360_0
    obtain ⟨_, _, ⟨T363, L363, k363, n363⟩, -, X363, ⟨Lc363, hQ363, l363, y363, z363⟩, st363⟩ := X362.virtualBack hx (y := own_y6) (z := own_y6) hown (mvT hZ (own_w hw 35 rfl)) (mvT hZ (own_w hw 36 rfl)) (notFace_of_selects (args := #[]) (mvT hZ (own_w hw 38 rfl))) (mvT hZ (own_w hw 38 rfl)) (mvT hZ (own_w hw 37 rfl)) (by decide) (backOf (W := 0) (own_get32_16 l Z a0 hw [] b348 b360_o0 k360_o1 (0 : Int32) (0 : Int32) (0 : Int32) (0 : Int32) (0 : Int32) (0 : Int32) (0 : Int32) (0 : Int32) (0 : Int32) (0 : Int32) (0 : Int32) (0 : Int32) (0 : Int32) (0 : Int32) (0 : Int32) p3 p1 (0 : Int32) (0 : Int32) (0 : Int32) (0 : Int32) (0 : Int32) (0 : Int32) (0 : Int32) (0 : Int32) (0 : Int32) (0 : Int32) (0 : Int32) (0 : Int32) (0 : Int32) (0 : Int32) (0 : Int32) T360.heap n0 Z361 P360_1 P360_3) hZ (own_w hw 39 rfl) (own_w hw 3 rfl) (by decide) (by decide)) q363a q363c (g := (mkF m 62 #[iv p1, iv p2, iv p3, iv p4, iv 16, rv b348, .unset] [.int 16, .ref b348])) rfl (by rw [hml]; rfl) (Steps.refl _) (argsL := [(.int (16 : Int32))]) (rest := []) (lenOf own_pd_2 rfl) rfl (by show 2 * 0 + _ ≤ _; exact Nat.le_of_eq rfl) (hb hby at_62) (fun _ _ => ⟨rfl, e362, (by decide : 3 + 0 ≤ _), (by decide : 50 + 0 ≤ _)⟩)
    dsimp only [Pt.U, Pt.locs, Pt.cells, Pt.slots] at X363 l363 y363 z363 st363 hQ363
    subst l363 y363 z363
    obtain ⟨hR363, e363, rfl⟩ := hQ363
    have N363 := Fr.app N362 (Fr.nil n0)
    obtain rfl := hR363
    refine own_tr st363 ?_
    show own_E p e below _ T363 (mkF m 65 #[iv p1, iv p2, iv p3, iv p4, iv 16, rv b348, .unset] [.int p1])
    refine own_st (fun t k => XS.iloadN X363.here hx rfl (hb hby at_65) rfl k) ?_
    show own_E p e below _ T363 (mkF m 66 #[iv p1, iv p2, iv p3, iv p4, iv 16, rv b348, .unset] [.int p1, .int p1])
    refine own_st (fun t k => XS.icmpNo X363.here hx rfl (hb hby at_66) rfl (teq rfl).2 k) ?_
    show own_E p e below _ T363 (mkF m 69 #[iv p1, iv p2, iv p3, iv p4, iv 16, rv b348, .unset] [])
    refine own_st (fun t k => XS.iconst X363.here hx rfl (hb hby at_69) k) ?_
    show own_E p e below _ T363 (mkF m 70 #[iv p1, iv p2, iv p3, iv p4, iv 16, rv b348, .unset] [.int 1])
    refine own_st (fun t k => XS.goto X363.here hx rfl (pc0 := 70) (pc' := 74) rfl (hb hby at_70) (by decide) (by decide) k) ?_
    show own_E p e below _ T363 (mkF m 74 #[iv p1, iv p2, iv p3, iv p4, iv 16, rv b348, .unset] [.int 1])
    refine own_st (fun t k => XS.istore X363.here hx rfl (hb hby at_74) rfl (l' := #[iv p1, iv p2, iv p3, iv p4, iv 16, rv b348, iv 1]) rfl k) ?_
    show own_E p e below _ T363 (mkF m 76 #[iv p1, iv p2, iv p3, iv p4, iv 16, rv b348, iv 1] [])
    refine own_st (fun t k => XS.aload X363.here hx rfl (hb hby at_76) rfl rfl k) ?_
    show own_E p e below _ T363 (mkF m 78 #[iv p1, iv p2, iv p3, iv p4, iv 16, rv b348, iv 1] [.ref b348])
    refine own_st (fun t k => XS.iloadN X363.here hx rfl (hb hby at_78) rfl k) ?_
    show own_E p e below _ T363 (mkF m 79 #[iv p1, iv p2, iv p3, iv p4, iv 16, rv b348, iv 1] [.int p2, .ref b348])
    obtain ⟨cq364, kq364, q364a, q364b, q364c⟩ := isOf hZ e363 P360_0
    obtain ⟨_, _, ⟨T364, L364, k364, n364⟩, -, X364, ⟨Lc364, hQ364, l364, y364, z364⟩, st364⟩ := X363.virtualBack hx (y := own_y5) (z := own_y5) hown (mvT hZ (own_w hw 25 rfl)) (mvT hZ (own_w hw 26 rfl)) (notFace_of_selects (args := #[]) (mvT hZ (own_w hw 28 rfl))) (mvT hZ (own_w hw 28 rfl)) (mvT hZ (own_w hw 27 rfl)) (by decide) (backOf (W := 0) (own_add17 l Z a0 hw [] b348 b360_o0 k360_o1 p2 (0 : Int32) (0 : Int32) (0 : Int32) (0 : Int32) (0 : Int32) (0 : Int32) (0 : Int32) (0 : Int32) (0 : Int32) (0 : Int32) (0 : Int32) (0 : Int32) (0 : Int32) (0 : Int32) (0 : Int32) p3 p1 (0 : Int32) (0 : Int32) (0 : Int32) (0 : Int32) (0 : Int32) (0 : Int32) (0 : Int32) (0 : Int32) (0 : Int32) (0 : Int32) (0 : Int32) (0 : Int32) (0 : Int32) (0 : Int32) (0 : Int32) T360.heap n0 Z361 P360_0 P360_1 P360_2 P360_3 ne_b348_b360_o0 g_b348 g_b360_o0) hZ (own_w hw 29 rfl) (own_w hw 3 rfl) (by decide) (by decide)) q364a q364c (g := (mkF m 79 #[iv p1, iv p2, iv p3, iv p4, iv 16, rv b348, iv 1] [.int p2, .ref b348])) rfl (by rw [hml]; rfl) (Steps.refl _) (argsL := [(.int p2)]) (rest := []) (lenOf own_pd_3 rfl) rfl (by show 2 * 0 + _ ≤ _; exact Nat.le_of_eq rfl) (hb hby at_79) (fun _ _ => ⟨rfl, e363, (by decide : 3 + 0 ≤ _), (by decide : 50 + 0 ≤ _)⟩)
    dsimp only [Pt.U, Pt.locs, Pt.cells, Pt.slots] at X364 l364 y364 z364 st364 hQ364
    subst l364 y364 z364
    obtain ⟨rfl, Nq364, Kq364, P364_0, P364_1, P364_2, P364_3⟩ := hQ364
    have N364 := Fr.app N363 Nq364
    have e364 : T364.heap = T364.heap := rfl
    have Z365 := Nat.le_trans Z361 Kq364.1
    refine own_tr st364 ?_
    show own_E p e below _ T364 (mkF m 82 #[iv p1, iv p2, iv p3, iv p4, iv 16, rv b348, iv 1] [])
    refine own_st (fun t k => XS.iload X364.here hx rfl (hb hby at_82) rfl k) ?_
    show own_E p e below _ T364 (mkF m 84 #[iv p1, iv p2, iv p3, iv p4, iv 16, rv b348, iv 1] [.int 1])
    refine own_st (fun t k => XS.ifNo X364.here hx rfl (hb hby at_84) rfl (by decide) k) ?_
    show own_E p e below _ T364 (mkF m 87 #[iv p1, iv p2, iv p3, iv p4, iv 16, rv b348, iv 1] [])
    refine own_st (fun t k => XS.aload X364.here hx rfl (hb hby at_87) rfl rfl k) ?_
    show own_E p e below _ T364 (mkF m 89 #[iv p1, iv p2, iv p3, iv p4, iv 16, rv b348, iv 1] [.ref b348])
    obtain ⟨cq366, kq366, q366a, q366b, q366c⟩ := isOf hZ e364 P364_0
    obtain ⟨_, _, ⟨T366, L366, k366, n366⟩, -, X366, ⟨Lc366, hQ366, l366, y366, z366⟩, st366⟩ := X364.virtualBack hx (y := own_y7) (z := own_y7) hown (mvT hZ (own_w hw 30 rfl)) (mvT hZ (own_w hw 31 rfl)) (notFace_of_selects (args := #[]) (mvT hZ (own_w hw 33 rfl))) (mvT hZ (own_w hw 33 rfl)) (mvT hZ (own_w hw 32 rfl)) (by decide) (backOf (W := 0) (own_size l Z a0 hw [] b348 (18 : Int32) T364.heap n0 Z365 P364_2) hZ (own_w hw 34 rfl) (own_w hw 3 rfl) (by decide) (by decide)) q366a q366c (g := (mkF m 89 #[iv p1, iv p2, iv p3, iv p4, iv 16, rv b348, iv 1] [.ref b348])) rfl (by rw [hml]; rfl) (Steps.refl _) (argsL := []) (rest := []) (lenOf own_pd_0 rfl) rfl (by show 2 * 0 + _ ≤ _; exact Nat.le_of_eq rfl) (hb hby at_89) (fun _ _ => ⟨rfl, e364, (by decide : 3 + 0 ≤ _), (by decide : 50 + 0 ≤ _)⟩)
    dsimp only [Pt.U, Pt.locs, Pt.cells, Pt.slots] at X366 l366 y366 z366 st366 hQ366
    subst l366 y366 z366
    obtain ⟨hR366, e366, rfl⟩ := hQ366
    have N366 := Fr.app N364 (Fr.nil n0)
    obtain rfl := hR366
    refine own_tr st366 ?_
    show own_E p e below _ T366 (mkF m 92 #[iv p1, iv p2, iv p3, iv p4, iv 16, rv b348, iv 1] [.int 18])
    refine own_st (fun t k => XS.iload X366.here hx rfl (hb hby at_92) rfl k) ?_
    show own_E p e below _ T366 (mkF m 94 #[iv p1, iv p2, iv p3, iv p4, iv 16, rv b348, iv 1] [.int 16, .int 18])
    refine own_st (fun t k => XS.iconst X366.here hx rfl (hb hby at_94) k) ?_
    show own_E p e below _ T366 (mkF m 95 #[iv p1, iv p2, iv p3, iv p4, iv 16, rv b348, iv 1] [.int 2, .int 16, .int 18])
    refine own_st (fun t k => XS.iadd X366.here hx rfl (hb hby at_95) rfl k) ?_
    show own_E p e below _ T366 (mkF m 96 #[iv p1, iv p2, iv p3, iv p4, iv 16, rv b348, iv 1] [.int 18, .int 18])
    refine own_st (fun t k => XS.icmpNo X366.here hx rfl (hb hby at_96) rfl (by decide) k) ?_
    show own_E p e below _ T366 (mkF m 99 #[iv p1, iv p2, iv p3, iv p4, iv 16, rv b348, iv 1] [])
    refine own_st (fun t k => XS.aload X366.here hx rfl (hb hby at_99) rfl rfl k) ?_
    show own_E p e below _ T366 (mkF m 101 #[iv p1, iv p2, iv p3, iv p4, iv 16, rv b348, iv 1] [.ref b348])
    refine own_st (fun t k => XS.iload X366.here hx rfl (hb hby at_101) rfl k) ?_
    show own_E p e below _ T366 (mkF m 103 #[iv p1, iv p2, iv p3, iv p4, iv 16, rv b348, iv 1] [.int 16, .ref b348])
    obtain ⟨cq367, kq367, q367a, q367b, q367c⟩ := isOf hZ e366 P364_0
    obtain ⟨_, _, ⟨T367, L367, k367, n367⟩, -, X367, ⟨Lc367, hQ367, l367, y367, z367⟩, st367⟩ := X366.virtualBack hx (y := own_y6) (z := own_y6) hown (mvT hZ (own_w hw 35 rfl)) (mvT hZ (own_w hw 36 rfl)) (notFace_of_selects (args := #[]) (mvT hZ (own_w hw 38 rfl))) (mvT hZ (own_w hw 38 rfl)) (mvT hZ (own_w hw 37 rfl)) (by decide) (backOf (W := 0) (own_get32_16 l Z a0 hw [] b348 b360_o0 k360_o1 (0 : Int32) (0 : Int32) (0 : Int32) (0 : Int32) (0 : Int32) (0 : Int32) (0 : Int32) (0 : Int32) (0 : Int32) (0 : Int32) (0 : Int32) (0 : Int32) (0 : Int32) (0 : Int32) (0 : Int32) p3 p1 p2 (0 : Int32) (0 : Int32) (0 : Int32) (0 : Int32) (0 : Int32) (0 : Int32) (0 : Int32) (0 : Int32) (0 : Int32) (0 : Int32) (0 : Int32) (0 : Int32) (0 : Int32) (0 : Int32) T364.heap n0 Z365 P364_1 P364_3) hZ (own_w hw 39 rfl) (own_w hw 3 rfl) (by decide) (by decide)) q367a q367c (g := (mkF m 103 #[iv p1, iv p2, iv p3, iv p4, iv 16, rv b348, iv 1] [.int 16, .ref b348])) rfl (by rw [hml]; rfl) (Steps.refl _) (argsL := [(.int (16 : Int32))]) (rest := []) (lenOf own_pd_2 rfl) rfl (by show 2 * 0 + _ ≤ _; exact Nat.le_of_eq rfl) (hb hby at_103) (fun _ _ => ⟨rfl, e366, (by decide : 3 + 0 ≤ _), (by decide : 50 + 0 ≤ _)⟩)
    dsimp only [Pt.U, Pt.locs, Pt.cells, Pt.slots] at X367 l367 y367 z367 st367 hQ367
    subst l367 y367 z367
    obtain ⟨hR367, e367, rfl⟩ := hQ367
    have N367 := Fr.app N366 (Fr.nil n0)
    obtain rfl := hR367
    refine own_tr st367 ?_
    show own_E p e below _ T367 (mkF m 106 #[iv p1, iv p2, iv p3, iv p4, iv 16, rv b348, iv 1] [.int p1])
    refine own_st (fun t k => XS.iloadN X367.here hx rfl (hb hby at_106) rfl k) ?_
    show own_E p e below _ T367 (mkF m 107 #[iv p1, iv p2, iv p3, iv p4, iv 16, rv b348, iv 1] [.int p1, .int p1])
    refine own_st (fun t k => XS.icmpNo X367.here hx rfl (hb hby at_107) rfl (teq rfl).2 k) ?_
    show own_E p e below _ T367 (mkF m 110 #[iv p1, iv p2, iv p3, iv p4, iv 16, rv b348, iv 1] [])
    refine own_st (fun t k => XS.aload X367.here hx rfl (hb hby at_110) rfl rfl k) ?_
    show own_E p e below _ T367 (mkF m 112 #[iv p1, iv p2, iv p3, iv p4, iv 16, rv b348, iv 1] [.ref b348])
    refine own_st (fun t k => XS.iload X367.here hx rfl (hb hby at_112) rfl k) ?_
    show own_E p e below _ T367 (mkF m 114 #[iv p1, iv p2, iv p3, iv p4, iv 16, rv b348, iv 1] [.int 16, .ref b348])
    refine own_st (fun t k => XS.iconst X367.here hx rfl (hb hby at_114) k) ?_
    show own_E p e below _ T367 (mkF m 115 #[iv p1, iv p2, iv p3, iv p4, iv 16, rv b348, iv 1] [.int 1, .int 16, .ref b348])
    refine own_st (fun t k => XS.iadd X367.here hx rfl (hb hby at_115) rfl k) ?_
    show own_E p e below _ T367 (mkF m 116 #[iv p1, iv p2, iv p3, iv p4, iv 16, rv b348, iv 1] [.int 17, .ref b348])
    obtain ⟨cq368, kq368, q368a, q368b, q368c⟩ := isOf hZ e367 P364_0
    obtain ⟨_, _, ⟨T368, L368, k368, n368⟩, -, X368, ⟨Lc368, hQ368, l368, y368, z368⟩, st368⟩ := X367.virtualBack hx (y := own_y6) (z := own_y6) hown (mvT hZ (own_w hw 35 rfl)) (mvT hZ (own_w hw 36 rfl)) (notFace_of_selects (args := #[]) (mvT hZ (own_w hw 38 rfl))) (mvT hZ (own_w hw 38 rfl)) (mvT hZ (own_w hw 37 rfl)) (by decide) (backOf (W := 0) (own_get32_17 l Z a0 hw [] b348 b360_o0 k360_o1 (0 : Int32) (0 : Int32) (0 : Int32) (0 : Int32) (0 : Int32) (0 : Int32) (0 : Int32) (0 : Int32) (0 : Int32) (0 : Int32) (0 : Int32) (0 : Int32) (0 : Int32) (0 : Int32) (0 : Int32) p3 p1 p2 (0 : Int32) (0 : Int32) (0 : Int32) (0 : Int32) (0 : Int32) (0 : Int32) (0 : Int32) (0 : Int32) (0 : Int32) (0 : Int32) (0 : Int32) (0 : Int32) (0 : Int32) (0 : Int32) T364.heap n0 Z365 P364_1 P364_3) hZ (own_w hw 39 rfl) (own_w hw 3 rfl) (by decide) (by decide)) q368a q368c (g := (mkF m 116 #[iv p1, iv p2, iv p3, iv p4, iv 16, rv b348, iv 1] [.int 17, .ref b348])) rfl (by rw [hml]; rfl) (Steps.refl _) (argsL := [(.int (17 : Int32))]) (rest := []) (lenOf own_pd_2 rfl) rfl (by show 2 * 0 + _ ≤ _; exact Nat.le_of_eq rfl) (hb hby at_116) (fun _ _ => ⟨rfl, e367, (by decide : 3 + 0 ≤ _), (by decide : 50 + 0 ≤ _)⟩)
    dsimp only [Pt.U, Pt.locs, Pt.cells, Pt.slots] at X368 l368 y368 z368 st368 hQ368
    subst l368 y368 z368
    obtain ⟨hR368, e368, rfl⟩ := hQ368
    have N368 := Fr.app N367 (Fr.nil n0)
    obtain rfl := hR368
    refine own_tr st368 ?_
    show own_E p e below _ T368 (mkF m 119 #[iv p1, iv p2, iv p3, iv p4, iv 16, rv b348, iv 1] [.int p2])
    refine own_st (fun t k => XS.iloadN X368.here hx rfl (hb hby at_119) rfl k) ?_
    show own_E p e below _ T368 (mkF m 120 #[iv p1, iv p2, iv p3, iv p4, iv 16, rv b348, iv 1] [.int p2, .int p2])
    refine own_st (fun t k => XS.icmpNo X368.here hx rfl (hb hby at_120) rfl (teq rfl).2 k) ?_
    show own_E p e below _ T368 (mkF m 123 #[iv p1, iv p2, iv p3, iv p4, iv 16, rv b348, iv 1] [])
    refine own_st (fun t k => XS.iconst X368.here hx rfl (hb hby at_123) k) ?_
    show own_E p e below _ T368 (mkF m 124 #[iv p1, iv p2, iv p3, iv p4, iv 16, rv b348, iv 1] [.int 1])
    refine own_st (fun t k => XS.goto X368.here hx rfl (pc0 := 124) (pc' := 128) rfl (hb hby at_124) (by decide) (by decide) k) ?_
    show own_E p e below _ T368 (mkF m 128 #[iv p1, iv p2, iv p3, iv p4, iv 16, rv b348, iv 1] [.int 1])
    refine own_st (fun t k => XS.istore X368.here hx rfl (hb hby at_128) rfl (l' := #[iv p1, iv p2, iv p3, iv p4, iv 16, rv b348, iv 1]) rfl k) ?_
    show own_E p e below _ T368 (mkF m 130 #[iv p1, iv p2, iv p3, iv p4, iv 16, rv b348, iv 1] [])
    refine own_st (fun t k => XS.iload X368.here hx rfl (hb hby at_130) rfl k) ?_
    show own_E p e below _ T368 (mkF m 132 #[iv p1, iv p2, iv p3, iv p4, iv 16, rv b348, iv 1] [.int 16])
    refine own_st (fun t k => XS.ifNo X368.here hx rfl (hb hby at_132) rfl (by decide) k) ?_
    show own_E p e below _ T368 (mkF m 135 #[iv p1, iv p2, iv p3, iv p4, iv 16, rv b348, iv 1] [])
    refine own_st (fun t k => XS.iload X368.here hx rfl (hb hby at_135) rfl k) ?_
    show own_E p e below _ T368 (mkF m 137 #[iv p1, iv p2, iv p3, iv p4, iv 16, rv b348, iv 1] [.int 1])
    refine own_st (fun t k => XS.ifNo X368.here hx rfl (hb hby at_137) rfl (by decide) k) ?_
    show own_E p e below _ T368 (mkF m 140 #[iv p1, iv p2, iv p3, iv p4, iv 16, rv b348, iv 1] [])
    refine own_st (fun t k => XS.aload X368.here hx rfl (hb hby at_140) rfl rfl k) ?_
    show own_E p e below _ T368 (mkF m 142 #[iv p1, iv p2, iv p3, iv p4, iv 16, rv b348, iv 1] [.ref b348])
    refine own_st (fun t k => XS.iload X368.here hx rfl (hb hby at_142) rfl k) ?_
    show own_E p e below _ T368 (mkF m 144 #[iv p1, iv p2, iv p3, iv p4, iv 16, rv b348, iv 1] [.int 16, .ref b348])
    refine own_st (fun t k => XS.iconst X368.here hx rfl (hb hby at_144) k) ?_
    show own_E p e below _ T368 (mkF m 145 #[iv p1, iv p2, iv p3, iv p4, iv 16, rv b348, iv 1] [.int 1, .int 16, .ref b348])
    refine own_st (fun t k => XS.isub X368.here hx rfl (hb hby at_145) rfl k) ?_
    show own_E p e below _ T368 (mkF m 146 #[iv p1, iv p2, iv p3, iv p4, iv 16, rv b348, iv 1] [.int 15, .ref b348])
    obtain ⟨cq369, kq369, q369a, q369b, q369c⟩ := isOf hZ e368 P364_0
    obtain ⟨_, _, ⟨T369, L369, k369, n369⟩, -, X369, ⟨Lc369, hQ369, l369, y369, z369⟩, st369⟩ := X368.virtualBack hx (y := own_y6) (z := own_y6) hown (mvT hZ (own_w hw 35 rfl)) (mvT hZ (own_w hw 36 rfl)) (notFace_of_selects (args := #[]) (mvT hZ (own_w hw 38 rfl))) (mvT hZ (own_w hw 38 rfl)) (mvT hZ (own_w hw 37 rfl)) (by decide) (backOf (W := 0) (own_get32_15 l Z a0 hw [] b348 b360_o0 k360_o1 (0 : Int32) (0 : Int32) (0 : Int32) (0 : Int32) (0 : Int32) (0 : Int32) (0 : Int32) (0 : Int32) (0 : Int32) (0 : Int32) (0 : Int32) (0 : Int32) (0 : Int32) (0 : Int32) (0 : Int32) p3 p1 p2 (0 : Int32) (0 : Int32) (0 : Int32) (0 : Int32) (0 : Int32) (0 : Int32) (0 : Int32) (0 : Int32) (0 : Int32) (0 : Int32) (0 : Int32) (0 : Int32) (0 : Int32) (0 : Int32) T364.heap n0 Z365 P364_1 P364_3) hZ (own_w hw 39 rfl) (own_w hw 3 rfl) (by decide) (by decide)) q369a q369c (g := (mkF m 146 #[iv p1, iv p2, iv p3, iv p4, iv 16, rv b348, iv 1] [.int 15, .ref b348])) rfl (by rw [hml]; rfl) (Steps.refl _) (argsL := [(.int (15 : Int32))]) (rest := []) (lenOf own_pd_2 rfl) rfl (by show 2 * 0 + _ ≤ _; exact Nat.le_of_eq rfl) (hb hby at_146) (fun _ _ => ⟨rfl, e368, (by decide : 3 + 0 ≤ _), (by decide : 50 + 0 ≤ _)⟩)
    dsimp only [Pt.U, Pt.locs, Pt.cells, Pt.slots] at X369 l369 y369 z369 st369 hQ369
    subst l369 y369 z369
    obtain ⟨hR369, e369, rfl⟩ := hQ369
    have N369 := Fr.app N368 (Fr.nil n0)
    obtain rfl := hR369
    refine own_tr st369 ?_
    show own_E p e below _ T369 (mkF m 149 #[iv p1, iv p2, iv p3, iv p4, iv 16, rv b348, iv 1] [.int p3])
    refine own_st (fun t k => XS.iloadN X369.here hx rfl (hb hby at_149) rfl k) ?_
    show own_E p e below _ T369 (mkF m 150 #[iv p1, iv p2, iv p3, iv p4, iv 16, rv b348, iv 1] [.int p3, .int p3])
    refine own_st (fun t k => XS.icmpNo X369.here hx rfl (hb hby at_150) rfl (teq rfl).2 k) ?_
    show own_E p e below _ T369 (mkF m 153 #[iv p1, iv p2, iv p3, iv p4, iv 16, rv b348, iv 1] [])
    refine own_st (fun t k => XS.iconst X369.here hx rfl (hb hby at_153) k) ?_
    show own_E p e below _ T369 (mkF m 154 #[iv p1, iv p2, iv p3, iv p4, iv 16, rv b348, iv 1] [.int 1])
    refine own_st (fun t k => XS.goto X369.here hx rfl (pc0 := 154) (pc' := 158) rfl (hb hby at_154) (by decide) (by decide) k) ?_
    show own_E p e below _ T369 (mkF m 158 #[iv p1, iv p2, iv p3, iv p4, iv 16, rv b348, iv 1] [.int 1])
    refine own_st (fun t k => XS.istore X369.here hx rfl (hb hby at_158) rfl (l' := #[iv p1, iv p2, iv p3, iv p4, iv 16, rv b348, iv 1]) rfl k) ?_
    show own_E p e below _ T369 (mkF m 160 #[iv p1, iv p2, iv p3, iv p4, iv 16, rv b348, iv 1] [])
    refine own_st (fun t k => XS.iload X369.here hx rfl (hb hby at_160) rfl k) ?_
    show own_E p e below _ T369 (mkF m 162 #[iv p1, iv p2, iv p3, iv p4, iv 16, rv b348, iv 1] [.int 1])
    refine own_retS X369 hx Bd.notSynchronized Bd.returns rfl (by decide) (hb hby at_162) (by decide) (by decide) ?_
    exact ⟨rfl, N369⟩
set_option maxRecDepth 65536 in
set_option maxHeartbeats 40000000 in
theorem comes_1 {Post : Tables → Env → Array Value → State → Outcome → State → Prop} (hpost : ∀ tb e args s v u, (limb_1_1.after args s (.returned v) u = true ∧ limb_1_2.after args s (.returned v) u = true ∧ True) → FrameEnd s (.returned v) u (Jvm.fieldLocs frame_1_writes args s ++ Jvm.arrayLocs frame_1_arrays args s ++ Jvm.staticLocs frame_1_statics s) 16 192 → Post tb e args s (.returned v) u) :
    ArmFor flags0 classFile x code maxLocals ret World_1 tables_1 room_1 Calls_1 rest_1 Pre_1 Post := by
  intro l hfl _ _ p e ha hc hk s m args below hf hA hF happ hP
  obtain ⟨hcalls, hrest, hpre⟩ := hP
  obtain ⟨-, -, -, hnamed, -, -, -, hat⟩ := (Spec.applies_iff hf).mp happ
  obtain ⟨hg, hn⟩ := and_e (Cond.before_iff.mp (show (Jvm.Cond.and given_1 narrow_1).before args s = true from hpre))
  obtain ⟨hg0, hg1⟩ := and_e hg
  obtain ⟨hv0, hg2⟩ := and_e hg1
  obtain ⟨hv1, hg3⟩ := and_e hg2
  obtain ⟨hv2, hg4⟩ := and_e hg3
  have hv3 := hg4
  obtain ⟨w0, w1, w2, w3, rfl⟩ : ∃ w0 w1 w2 w3 : Value, args = #[w0, w1, w2, w3] := by
    have hs : args.size = 4 := by simpa [Cond.value, given_1] using hg0
    obtain ⟨L⟩ := args
    match L, hs with
    | [w0, w1, w2, w3], _ => exact ⟨w0, w1, w2, w3, rfl⟩
  have hw := fun d (hd : d ∈ tables_1) => atoms_spec (ws := Jvm.Cond.code x code maxLocals ret :: tables_1) hat d (List.mem_cons_of_mem _ hd)
  have hfit : Fit s := fun {y c} hc i hi => by
    obtain ⟨ha, rfl⟩ := Array.getElem?_eq_some_iff.mp hc
    have q := List.all_eq_true.mp ((Array.all_eq_true_iff_forall_mem.mp hF) _ (Array.getElem_mem ha)) i (List.mem_range.mpr hi)
    simpa [Array.getElem?_eq_getElem hi] using q
  obtain ⟨i0, ev0⟩ := is_v hv0
  obtain rfl : w0 = (.int i0) := Option.some.inj ev0
  obtain ⟨i1, ev1⟩ := is_v hv1
  obtain rfl : w1 = (.int i1) := Option.some.inj ev1
  obtain ⟨i2, ev2⟩ := is_v hv2
  obtain rfl : w2 = (.int i2) := Option.some.inj ev2
  obtain ⟨i3, ev3⟩ := is_v hv3
  obtain rfl : w3 = (.int i3) := Option.some.inj ev3
  obtain ⟨n, o, h1, h2, h3, _, L, rfl, ⟨rfl, N⟩, hq⟩ := own_law l s _ hw tables_1 i0 i1 i2 i3 s.heap s.heap.size (Nat.le_refl _)  p e ha hc hk s m _ below hf ((Spec.applies_iff_loose hf).mp happ).1 ⟨rfl, State.Warmed39.refl s, rfl⟩ trivial
  refine ⟨n, _, h1, h2, h3, hpost _ _ _ _ _ _ ⟨Cond.after_iff.mpr rfl, Cond.after_iff.mpr (eq_i res_at (Term.int_eval (1)) rfl), trivial⟩ ⟨hq.1, hq.2.1, (hq.2.2.sift fun y hy => Or.inr (N y hy)).mono (by decide) (by decide)⟩⟩
theorem main_1_1 : Claimed_1_1 := comes_1 fun _ _ _ _ _ _ h hF => ⟨h.1, hF⟩
theorem main_1_2 : Claimed_1_2 := comes_1 fun _ _ _ _ _ _ h hF => ⟨h.2.1, hF⟩
end Jvm.Pilot.@@N@@
namespace Jvm.Pilot.@@N@@
open Jvm Jvm.ClassFile Sem Op Lib Jvm.Free Jvm.Stand Jvm.Pilot.@@N@@.Jvm.D
/-! MADE BY PROGRAM (witnessworld.py) out of the Statement's table words and the real class files: 12 classes; the members and pool entries that the words name. The judged class is class 1, her method 1. -/
namespace start1
open Jvm.ClassFile
def u (s : String) : CpInfo := .utf8 (stringToUtf16 s)
/-- a pool by its gaps: so many unusable entries, then the entry; so many at the end -/
def gap : Nat → List CpInfo → List CpInfo
  | 0, r => r
  | n + 1, r => .unusable :: gap n r
def poolList (es : List (Nat × CpInfo)) (last : Nat) : List CpInfo := es.foldr (fun e r => gap e.1 (e.2 :: r)) (gap last [])
def pool (es : List (Nat × CpInfo)) (last : Nat) : Array CpInfo := ⟨poolList es last⟩
def fileOf (pool : Array CpInfo) (this : Nat) (attrs : Array Attribute := #[]) (ms : Array MethodInfo := #[]) (fl : Nat := 33) (sup : Nat := 0) (ifs : Array Nat := #[]) (fds : Array FieldInfo := #[]) : ClassFile where
  minorVersion := 0
  majorVersion := 65
  constantPool := pool
  accessFlags := fl
  thisClass := this
  superClass := sup
  interfaces := ifs
  fields := fds
  methods := ms
  attributes := attrs
def plain (name : String) (sup : Option ClassId) : Class where
  name := name
  kind := .ordinary
  loader := none
  accessFlags := 33
  super := sup
  interfaces := #[]
  cf := none
  fields := #[]
  methods := #[]
  instanceTypes := #[]
  staticTypes := #[]
  resolved := #[]
  callSites := []
  init := .initialized
  statics := none
  mirror := none

def pool0 : Array CpInfo := pool [(5, u "<init>"), (0, u "()V"), (1, .class_ 10), (1, u "java/lang/Object")] 113

def k0c0 : Code := { maxStack := 0, maxLocals := 1, code := object_method_1_code, exceptionTable := #[], attributes := #[] }
def k0m0 : Method := { name := "<init>", desc := "()V", sig := { parameters := [], returnType := none }, accessFlags := 1, code := some k0c0 }
/-- java/lang/Object -/
def k0 : Class := { plain "java/lang/Object" none with
  accessFlags := 33
  interfaces := #[]
  cf := some (fileOf pool0 8 #[] #[{ accessFlags := 1, nameIndex := 5, descriptorIndex := 6, attributes := #[] }] 33 0 #[] #[])
  fields := #[]
  methods := #[k0m0]
  instanceTypes := #[]
  staticTypes := #[]
  resolved := Array.replicate 124 none
  statics := none }

def pool1 : Array CpInfo := pool [(2, .class_ 4), (0, .nameAndType 5 6), (0, u "java/lang/Object"), (0, u "<init>"), (0, u "()V"), (0, .integer 2147483647), (0, .class_ 9), (0, u "com/example/kalchas/kalchas/IntList"), (0, .methodref 8 3), (0, .methodref 8 12), (0, .nameAndType 13 14), (0, u "truncate"), (0, u "(I)V"), (0, .methodref 8 16), (0, .nameAndType 17 18), (0, u "set"), (0, u "(II)V"), (0, .methodref 8 20), (0, .nameAndType 21 14), (0, u "add"), (0, .methodref 8 23), (0, .nameAndType 24 25), (0, u "size"), (0, u "()I"), (0, .methodref 8 27), (0, .nameAndType 28 29), (0, u "get"), (0, u "(I)I"), (0, .class_ 31), (0, u "com/example/kalchas/kalchas/IntListAddPinLaw"), (2, u "law"), (0, u "(IIII)Z")] 3

def k1m0 : Method := { name := "<init>", desc := "()V", sig := { parameters := [], returnType := none }, accessFlags := 1, code := none }
def k1c1 : Code := { maxStack := 3, maxLocals := 7, code := code, exceptionTable := #[], attributes := #[] }
def k1m1 : Method := { name := "law", desc := "(IIII)Z", sig := { parameters := [.int, .int, .int, .int], returnType := some .boolean }, accessFlags := 9, code := some k1c1 }
/-- com/example/kalchas/kalchas/IntListAddPinLaw -/
def k1 : Class := { plain "com/example/kalchas/kalchas/IntListAddPinLaw" (some 0) with
  accessFlags := 49
  interfaces := #[]
  cf := some (fileOf pool1 30 #[] #[{ accessFlags := 1, nameIndex := 5, descriptorIndex := 6, attributes := #[] }, { accessFlags := 9, nameIndex := 34, descriptorIndex := 35, attributes := #[] }] 49 2 #[] #[])
  fields := #[]
  methods := #[k1m0, k1m1]
  instanceTypes := #[]
  staticTypes := #[]
  resolved := Array.replicate 39 none
  statics := none }

def pool2 : Array CpInfo := pool [(1, .methodref 2 3), (0, .class_ 4), (0, .nameAndType 5 6), (0, u "java/lang/Object"), (0, u "<init>"), (0, u "()V"), (0, .fieldref 8 9), (0, .class_ 10), (0, .nameAndType 11 12), (0, u "com/example/kalchas/kalchas/IntList"), (0, u "values"), (0, u "[I"), (0, .fieldref 8 14), (0, .nameAndType 15 16), (0, u "size"), (0, u "I"), (0, .methodref 18 19), (0, .class_ 20), (0, .nameAndType 21 22), (0, u "java/util/Arrays"), (0, u "copyOf"), (0, u "([II)[I"), (2, u "add"), (0, u "(I)V"), (1, u "set"), (0, u "(II)V"), (0, u "truncate"), (0, u "get"), (0, u "(I)I"), (0, u "()I")] 4

def k2c0 : Code := { maxStack := 2, maxLocals := 1, code := prog_14_method_1_code, exceptionTable := #[], attributes := #[] }
def k2m0 : Method := { name := "<init>", desc := "()V", sig := { parameters := [], returnType := none }, accessFlags := 0, code := some k2c0 }
def k2c1 : Code := { maxStack := 5, maxLocals := 2, code := prog_14_method_2_code, exceptionTable := #[], attributes := #[] }
def k2m1 : Method := { name := "add", desc := "(I)V", sig := { parameters := [.int], returnType := none }, accessFlags := 0, code := some k2c1 }
def k2c2 : Code := { maxStack := 3, maxLocals := 3, code := prog_14_method_3_code, exceptionTable := #[], attributes := #[] }
def k2m2 : Method := { name := "set", desc := "(II)V", sig := { parameters := [.int, .int], returnType := none }, accessFlags := 0, code := some k2c2 }
def k2c3 : Code := { maxStack := 2, maxLocals := 2, code := prog_14_method_4_code, exceptionTable := #[], attributes := #[] }
def k2m3 : Method := { name := "truncate", desc := "(I)V", sig := { parameters := [.int], returnType := none }, accessFlags := 0, code := some k2c3 }
def k2c4 : Code := { maxStack := 2, maxLocals := 2, code := prog_14_method_5_code, exceptionTable := #[], attributes := #[] }
def k2m4 : Method := { name := "get", desc := "(I)I", sig := { parameters := [.int], returnType := some .int }, accessFlags := 0, code := some k2c4 }
def k2c5 : Code := { maxStack := 1, maxLocals := 1, code := prog_14_method_6_code, exceptionTable := #[], attributes := #[] }
def k2m5 : Method := { name := "size", desc := "()I", sig := { parameters := [], returnType := some .int }, accessFlags := 0, code := some k2c5 }
/-- com/example/kalchas/kalchas/IntList -/
def k2 : Class := { plain "com/example/kalchas/kalchas/IntList" (some 0) with
  accessFlags := 32
  interfaces := #[]
  cf := some (fileOf pool2 8 #[] #[{ accessFlags := 0, nameIndex := 5, descriptorIndex := 6, attributes := #[] }, { accessFlags := 0, nameIndex := 25, descriptorIndex := 26, attributes := #[] }, { accessFlags := 0, nameIndex := 28, descriptorIndex := 29, attributes := #[] }, { accessFlags := 0, nameIndex := 30, descriptorIndex := 26, attributes := #[] }, { accessFlags := 0, nameIndex := 31, descriptorIndex := 32, attributes := #[] }, { accessFlags := 0, nameIndex := 15, descriptorIndex := 33, attributes := #[] }] 32 2 #[] #[{ accessFlags := 2, nameIndex := 11, descriptorIndex := 12, attributes := #[] }, { accessFlags := 2, nameIndex := 15, descriptorIndex := 16, attributes := #[] }])
  fields := #[{ name := "values", type := (.array .int), accessFlags := 2, slot := 0, constantValue := 0 }, { name := "size", type := .int, accessFlags := 2, slot := 1, constantValue := 0 }]
  methods := #[k2m0, k2m1, k2m2, k2m3, k2m4, k2m5]
  instanceTypes := #[(.array .int), .int]
  staticTypes := #[]
  resolved := Array.replicate 38 none
  statics := none }

def pool3 : Array CpInfo := pool [(2, .class_ 4), (1, u "java/lang/Object"), (0, u "<init>"), (0, u "()V"), (7, .class_ 16), (1, u "java/util/Arrays"), (57, .class_ 76), (1, u "java/util/Arrays$NaturalOrder"), (36, .class_ 115), (1, u "java/util/Arrays$LegacyMergeSort"), (1, u "Z"), (32, .methodref 151 152), (0, .class_ 153), (0, .nameAndType 154 155), (0, u "java/lang/System"), (0, u "arraycopy"), (0, u "(Ljava/lang/Object;ILjava/lang/Object;II)V"), (146, u "copyOf"), (1, .methodref 305 306), (0, .class_ 307), (0, .nameAndType 308 309), (0, u "java/lang/Math"), (0, u "min"), (0, u "(II)I"), (65, .class_ 376), (0, u "java/util/Arrays$ArrayList"), (68, u "$assertionsDisabled"), (269, u "MIN_ARRAY_SORT_GRAN"), (0, u "I"), (2, u "INSERTIONSORT_THRESHOLD"), (151, u "([II)[I"), (103, .class_ 976), (0, u "java/util/Arrays$ArrayItr")] 52

def k3m0 : Method := { name := "<init>", desc := "()V", sig := { parameters := [], returnType := none }, accessFlags := 2, code := none }
def k3c1 : Code := { maxStack := 6, maxLocals := 3, code := jdk_65_method_123_code, exceptionTable := #[], attributes := #[] }
def k3m1 : Method := { name := "copyOf", desc := "([II)[I", sig := { parameters := [(.array .int), .int], returnType := some (.array .int) }, accessFlags := 9, code := some k3c1 }
/-- java/util/Arrays -/
def k3 : Class := { plain "java/util/Arrays" (some 0) with
  accessFlags := 49
  interfaces := #[]
  cf := some (fileOf pool3 14 #[.nestMembers #[975, 375, 113, 74]] #[{ accessFlags := 2, nameIndex := 5, descriptorIndex := 6, attributes := #[] }, { accessFlags := 9, nameIndex := 302, descriptorIndex := 871, attributes := #[] }] 49 2 #[] #[{ accessFlags := 26, nameIndex := 715, descriptorIndex := 716, attributes := #[] }, { accessFlags := 26, nameIndex := 719, descriptorIndex := 716, attributes := #[] }, { accessFlags := 4120, nameIndex := 445, descriptorIndex := 117, attributes := #[] }])
  fields := #[{ name := "MIN_ARRAY_SORT_GRAN", type := .int, accessFlags := 26, slot := 0, constantValue := 0 }, { name := "INSERTIONSORT_THRESHOLD", type := .int, accessFlags := 26, slot := 1, constantValue := 0 }, { name := "$assertionsDisabled", type := .boolean, accessFlags := 4120, slot := 2, constantValue := 0 }]
  methods := #[k3m0, k3m1]
  instanceTypes := #[]
  staticTypes := #[.int, .int, .boolean]
  resolved := Array.replicate 1029 none
  statics := none }

def pool4 : Array CpInfo := pool [(1, .class_ 2), (0, u "java/lang/Math"), (1, .class_ 6), (1, u "java/lang/Object"), (0, u "<init>"), (0, u "()V"), (89, .class_ 100), (1, u "java/lang/Math$RandomNumberGeneratorHolder"), (71, u "negativeZeroFloatBits"), (0, u "J"), (2, u "negativeZeroDoubleBits"), (24, u "min"), (43, u "$assertionsDisabled"), (0, u "Z"), (88, u "(II)I"), (2, u "twoToTheDoubleScaleDown"), (0, u "D"), (4, u "twoToTheDoubleScaleUp"), (9, u "E"), (3, u "PI"), (2, u "TAU"), (2, u "DEGREES_TO_RADIANS"), (0, u "RADIANS_TO_DEGREES")] 94

def k4m0 : Method := { name := "<init>", desc := "()V", sig := { parameters := [], returnType := none }, accessFlags := 2, code := none }
def k4c1 : Code := { maxStack := 2, maxLocals := 2, code := jdk_29_method_69_code, exceptionTable := #[], attributes := #[] }
def k4m1 : Method := { name := "min", desc := "(II)I", sig := { parameters := [.int, .int], returnType := some .int }, accessFlags := 9, code := some k4c1 }
/-- java/lang/Math -/
def k4 : Class := { plain "java/lang/Math" (some 0) with
  accessFlags := 49
  interfaces := #[]
  cf := some (fileOf pool4 1 #[.nestMembers #[98]] #[{ accessFlags := 2, nameIndex := 7, descriptorIndex := 8, attributes := #[] }, { accessFlags := 9, nameIndex := 201, descriptorIndex := 335, attributes := #[] }] 49 4 #[] #[{ accessFlags := 25, nameIndex := 354, descriptorIndex := 339, attributes := #[] }, { accessFlags := 25, nameIndex := 358, descriptorIndex := 339, attributes := #[] }, { accessFlags := 25, nameIndex := 361, descriptorIndex := 339, attributes := #[] }, { accessFlags := 26, nameIndex := 364, descriptorIndex := 339, attributes := #[] }, { accessFlags := 26, nameIndex := 365, descriptorIndex := 339, attributes := #[] }, { accessFlags := 26, nameIndex := 172, descriptorIndex := 173, attributes := #[] }, { accessFlags := 26, nameIndex := 176, descriptorIndex := 173, attributes := #[] }, { accessFlags := 8, nameIndex := 344, descriptorIndex := 339, attributes := #[] }, { accessFlags := 8, nameIndex := 338, descriptorIndex := 339, attributes := #[] }, { accessFlags := 4120, nameIndex := 245, descriptorIndex := 246, attributes := #[] }])
  fields := #[{ name := "E", type := .double, accessFlags := 25, slot := 0, constantValue := 0 }, { name := "PI", type := .double, accessFlags := 25, slot := 1, constantValue := 0 }, { name := "TAU", type := .double, accessFlags := 25, slot := 2, constantValue := 0 }, { name := "DEGREES_TO_RADIANS", type := .double, accessFlags := 26, slot := 3, constantValue := 0 }, { name := "RADIANS_TO_DEGREES", type := .double, accessFlags := 26, slot := 4, constantValue := 0 }, { name := "negativeZeroFloatBits", type := .long, accessFlags := 26, slot := 5, constantValue := 0 }, { name := "negativeZeroDoubleBits", type := .long, accessFlags := 26, slot := 6, constantValue := 0 }, { name := "twoToTheDoubleScaleUp", type := .double, accessFlags := 8, slot := 7, constantValue := 0 }, { name := "twoToTheDoubleScaleDown", type := .double, accessFlags := 8, slot := 8, constantValue := 0 }, { name := "$assertionsDisabled", type := .boolean, accessFlags := 4120, slot := 9, constantValue := 0 }]
  methods := #[k4m0, k4m1]
  instanceTypes := #[]
  staticTypes := #[.double, .double, .double, .double, .double, .long, .long, .double, .double, .boolean]
  resolved := Array.replicate 460 none
  statics := none }

def pool5 : Array CpInfo := pool [(2, .class_ 4), (1, u "java/lang/Object"), (0, u "<init>"), (0, u "()V"), (1, .class_ 10), (1, u "java/lang/System"), (0, u "allowSecurityManager"), (0, u "I"), (16, u "cons"), (0, u "Ljava/io/Console;"), (77, .class_ 110), (1, u "java/lang/System$CallersHolder"), (43, u "initialErrStream"), (0, u "Ljava/io/PrintStream;"), (19, u "security"), (0, u "Ljava/lang/SecurityManager;"), (31, .class_ 209), (0, u "java/lang/System$1"), (7, u "props"), (0, u "Ljava/util/Properties;"), (2, u "lineSeparator"), (0, u "Ljava/lang/String;"), (96, .class_ 321), (1, u "java/lang/System$LoggerFinder"), (5, .class_ 328), (0, u "java/lang/System$Logger"), (67, u "err"), (2, u "out"), (91, u "notSupportedJnuEncoding"), (15, u "in"), (17, u "initialIn"), (0, u "Ljava/io/InputStream;"), (35, u "bootLayer"), (0, u "Ljava/lang/ModuleLayer;"), (99, .class_ 664), (0, u "java/lang/System$2"), (9, u "NEVER"), (2, u "MAYBE"), (49, u "arraycopy"), (0, u "(Ljava/lang/Object;ILjava/lang/Object;II)V"), (72, .class_ 802), (0, u "java/lang/System$Logger$Level")] 31

def k5m0 : Method := { name := "<init>", desc := "()V", sig := { parameters := [], returnType := none }, accessFlags := 2, code := none }
def k5m1 : Method := { name := "arraycopy", desc := "(Ljava/lang/Object;ILjava/lang/Object;II)V", sig := { parameters := [(.object "java/lang/Object"), .int, (.object "java/lang/Object"), .int, .int], returnType := none }, accessFlags := 265, code := none }
/-- java/lang/System -/
def k5 : Class := { plain "java/lang/System" (some 0) with
  accessFlags := 49
  interfaces := #[]
  cf := some (fileOf pool5 8 #[.nestMembers #[319, 327, 801, 108, 663, 208]] #[{ accessFlags := 2, nameIndex := 5, descriptorIndex := 6, attributes := #[] }, { accessFlags := 265, nameIndex := 727, descriptorIndex := 728, attributes := #[] }] 49 2 #[] #[{ accessFlags := 25, nameIndex := 507, descriptorIndex := 526, attributes := #[] }, { accessFlags := 25, nameIndex := 399, descriptorIndex := 155, attributes := #[] }, { accessFlags := 25, nameIndex := 396, descriptorIndex := 155, attributes := #[] }, { accessFlags := 10, nameIndex := 525, descriptorIndex := 526, attributes := #[] }, { accessFlags := 26, nameIndex := 674, descriptorIndex := 12, attributes := #[] }, { accessFlags := 26, nameIndex := 677, descriptorIndex := 12, attributes := #[] }, { accessFlags := 10, nameIndex := 11, descriptorIndex := 12, attributes := #[] }, { accessFlags := 74, nameIndex := 175, descriptorIndex := 176, attributes := #[] }, { accessFlags := 10, nameIndex := 491, descriptorIndex := 222, attributes := #[] }, { accessFlags := 74, nameIndex := 29, descriptorIndex := 30, attributes := #[] }, { accessFlags := 74, nameIndex := 154, descriptorIndex := 155, attributes := #[] }, { accessFlags := 10, nameIndex := 217, descriptorIndex := 218, attributes := #[] }, { accessFlags := 10, nameIndex := 221, descriptorIndex := 222, attributes := #[] }, { accessFlags := 8, nameIndex := 562, descriptorIndex := 563, attributes := #[] }])
  fields := #[{ name := "in", type := (.object "java/io/InputStream"), accessFlags := 25, slot := 0, constantValue := 0 }, { name := "out", type := (.object "java/io/PrintStream"), accessFlags := 25, slot := 1, constantValue := 0 }, { name := "err", type := (.object "java/io/PrintStream"), accessFlags := 25, slot := 2, constantValue := 0 }, { name := "initialIn", type := (.object "java/io/InputStream"), accessFlags := 10, slot := 3, constantValue := 0 }, { name := "NEVER", type := .int, accessFlags := 26, slot := 4, constantValue := 0 }, { name := "MAYBE", type := .int, accessFlags := 26, slot := 5, constantValue := 0 }, { name := "allowSecurityManager", type := .int, accessFlags := 10, slot := 6, constantValue := 0 }, { name := "security", type := (.object "java/lang/SecurityManager"), accessFlags := 74, slot := 7, constantValue := 0 }, { name := "notSupportedJnuEncoding", type := (.object "java/lang/String"), accessFlags := 10, slot := 8, constantValue := 0 }, { name := "cons", type := (.object "java/io/Console"), accessFlags := 74, slot := 9, constantValue := 0 }, { name := "initialErrStream", type := (.object "java/io/PrintStream"), accessFlags := 74, slot := 10, constantValue := 0 }, { name := "props", type := (.object "java/util/Properties"), accessFlags := 10, slot := 11, constantValue := 0 }, { name := "lineSeparator", type := (.object "java/lang/String"), accessFlags := 10, slot := 12, constantValue := 0 }, { name := "bootLayer", type := (.object "java/lang/ModuleLayer"), accessFlags := 8, slot := 13, constantValue := 0 }]
  methods := #[k5m0, k5m1]
  instanceTypes := #[]
  staticTypes := #[(.object "java/io/InputStream"), (.object "java/io/PrintStream"), (.object "java/io/PrintStream"), (.object "java/io/InputStream"), .int, .int, .int, (.object "java/lang/SecurityManager"), (.object "java/lang/String"), (.object "java/io/Console"), (.object "java/io/PrintStream"), (.object "java/util/Properties"), (.object "java/lang/String"), (.object "java/lang/ModuleLayer")]
  resolved := Array.replicate 834 none
  statics := none }

def pool6 : Array CpInfo := pool [(1, u "java/lang/Cloneable"), (0, .class_ 1), (0, u "java/lang/Object"), (0, .class_ 3)] 3

/-- java/lang/Cloneable -/
def k6 : Class := { plain "java/lang/Cloneable" (some 0) with
  accessFlags := 1537
  interfaces := #[]
  cf := some (fileOf pool6 2 #[] #[] 1537 4 #[] #[])
  fields := #[]
  methods := #[]
  instanceTypes := #[]
  staticTypes := #[]
  resolved := Array.replicate 8 none
  statics := none }

def pool7 : Array CpInfo := pool [(1, u "java/io/Serializable"), (0, .class_ 1), (0, u "java/lang/Object"), (0, .class_ 3)] 3

/-- java/io/Serializable -/
def k7 : Class := { plain "java/io/Serializable" (some 0) with
  accessFlags := 1537
  interfaces := #[]
  cf := some (fileOf pool7 2 #[] #[] 1537 4 #[] #[])
  fields := #[]
  methods := #[]
  instanceTypes := #[]
  staticTypes := #[]
  resolved := Array.replicate 8 none
  statics := none }

/-- the primitive byte -/
def k8 : Class := { plain "byte" none with kind := .primitive 'B', accessFlags := 0x411 }
/-- [B -/
def k9 : Class := { plain "[B" (some 0) with kind := .array 8 .byte, interfaces := #[6, 7], accessFlags := 1041 }

/-- the primitive int -/
def k10 : Class := { plain "int" none with kind := .primitive 'I', accessFlags := 0x411 }
/-- [I -/
def k11 : Class := { plain "[I" (some 0) with kind := .array 10 .int, interfaces := #[6, 7], accessFlags := 1041 }

def heap : Heap := #[]
def classes : Array Class := #[k0, k1, k2, k3, k4, k5, k6, k7, k8, k9, k10, k11]
def interned : List (Array UInt16 × Addr) := []
def slotsUsed : Nat := 0
def theMethod : MethodId := ⟨1, 1⟩
def args0 : Array Value := #[.int 1, .int 2, .int 3, .int 4]
def aboutOver (below : List Frame) : State where
  vm := { classes := classes, interned := interned.toArray }
  heap := heap
  slotsUsed := slotsUsed
  threads := #[{ frames := .invoking theMethod args0 :: below }]
def below0 : List Frame := [.native { method := ⟨0, 0⟩, args := #[] }]
def about1 : State := aboutOver below0
def p0 : Program := .bare "" "" ""
def e0 : Env := launch0.env 0 0 0
theorem w_frames : about1.frames = Frame.invoking theMethod args0 :: below0 := rfl
set_option maxRecDepth 65536 in
theorem w_args : argsFit about1.vm theMethod args0 = true := by decide +kernel
set_option maxRecDepth 65536 in
theorem w_heap : heapFits about1 = true := by decide +kernel
set_option maxRecDepth 65536 in
theorem w_runnable : about1.curStatus? = some .runnable := by decide +kernel
set_option maxRecDepth 65536 in
theorem w_alone : about1.alone = true := by decide +kernel
set_option maxRecDepth 65536 in
theorem w_named : about1.methodNamed? x = some theMethod := by decide +kernel
set_option maxRecDepth 65536 in
theorem w_hears : about1.hears theMethod below0 = true := by decide +kernel
set_option maxRecDepth 65536 in
theorem w_ripe : about1.ripe theMethod args0 below0 = true := by decide +kernel
theorem w_running : about1.status = .running := rfl
set_option maxRecDepth 65536 in
theorem w_room : about1.hasRoom e0.platform room_1 = true :=
  launch0.hasRoom_least _ room_1 (by decide +kernel) (by decide +kernel) (by decide +kernel) (by decide +kernel) (by decide +kernel) (by decide +kernel)
theorem allAtoms_all (ts : List Jvm.Cond) (a : Array Jvm.Value) (st : Jvm.State) : (allAtoms ts).before a st = ts.all (fun c => c.before a st) := by
  induction ts with
  | nil => rfl
  | cons c t ih =>
    show (Jvm.Cond.and c (allAtoms t)).before a st = _
    rw [Jvm.Cond.before_and, ih, List.all_cons]
def words1 : List Jvm.Cond := Jvm.Cond.code x code maxLocals ret :: tables_1
/-- a 'code' word, met by the world's own term for the bytes: nothing is compared byte by byte -/
theorem code_word {y : MethodName} {bytes : ByteArray} {mx : Nat} {rt : Option FieldType} {a : Array Value} {s : State} {m : MethodId} {meth : Method} {c : Code} (h1 : s.methodNamed? y = some m) (h2 : s.vm.method? m = some meth) (h3 : meth.code = some c) (h4 : c.code = bytes)
    (h5 : (c.maxLocals == mx && c.exceptionTable.isEmpty && decide (c.maxStack ≤ mostOperands) && decide (meth.sig.returnType = rt) && !meth.locks && decide (parseMethodDescriptor y.desc = some meth.sig)) = true) : (Jvm.Cond.code y bytes mx rt).before a s = true := by
  simp only [Bool.and_eq_true, beq_iff_eq, Bool.not_eq_true', decide_eq_true_eq] at h5
  obtain ⟨⟨⟨⟨⟨g1, g2⟩, g3⟩, g4⟩, g5⟩, g6⟩ := h5
  simp [Cond.before, Cond.holds, Cond.value, h1, h2, h3, h4, g1, g2, g3, g4, g5, g6]
def isCode : Jvm.Cond → Bool
  | .code _ _ _ _ => true
  | _ => false
theorem all_split {L : List Jvm.Cond} {P : Jvm.Cond → Bool} (h1 : L.all (fun c => isCode c || P c) = true) (h2 : ∀ c ∈ L.filter isCode, P c = true) : L.all P = true := by
  refine List.all_eq_true.mpr fun c hc => ?_
  have h := List.all_eq_true.mp h1 c hc
  rcases Bool.eq_false_or_eq_true (isCode c) with hi | hi
  · exact h2 c (List.mem_filter.mpr ⟨hc, hi⟩)
  · simpa [hi] using h
set_option maxRecDepth 65536 in
theorem w_c0 : (Jvm.Cond.code x code maxLocals ret).before args0 about1 = true := code_word (m := ⟨1, 1⟩) (meth := k1m1) (c := k1c1) (by decide +kernel) rfl rfl rfl (by decide +kernel)
set_option maxRecDepth 65536 in
theorem w_c1 : (Jvm.Cond.code ({ cls := "com/example/kalchas/kalchas/IntList", name := "<init>", desc := "()V" } : Jvm.MethodName) prog_14_method_1_code (1 : Nat) (Option.none : Option Jvm.ClassFile.FieldType)).before args0 about1 = true := code_word (m := ⟨2, 0⟩) (meth := k2m0) (c := k2c0) (by decide +kernel) rfl rfl rfl (by decide +kernel)
set_option maxRecDepth 65536 in
theorem w_c2 : (Jvm.Cond.code ({ cls := "java/lang/Object", name := "<init>", desc := "()V" } : Jvm.MethodName) object_method_1_code (1 : Nat) (Option.none : Option Jvm.ClassFile.FieldType)).before args0 about1 = true := code_word (m := ⟨0, 0⟩) (meth := k0m0) (c := k0c0) (by decide +kernel) rfl rfl rfl (by decide +kernel)
set_option maxRecDepth 65536 in
theorem w_c3 : (Jvm.Cond.code ({ cls := "com/example/kalchas/kalchas/IntList", name := "truncate", desc := "(I)V" } : Jvm.MethodName) prog_14_method_4_code (2 : Nat) (Option.none : Option Jvm.ClassFile.FieldType)).before args0 about1 = true := code_word (m := ⟨2, 3⟩) (meth := k2m3) (c := k2c3) (by decide +kernel) rfl rfl rfl (by decide +kernel)
set_option maxRecDepth 65536 in
theorem w_c4 : (Jvm.Cond.code ({ cls := "com/example/kalchas/kalchas/IntList", name := "set", desc := "(II)V" } : Jvm.MethodName) prog_14_method_3_code (3 : Nat) (Option.none : Option Jvm.ClassFile.FieldType)).before args0 about1 = true := code_word (m := ⟨2, 2⟩) (meth := k2m2) (c := k2c2) (by decide +kernel) rfl rfl rfl (by decide +kernel)
set_option maxRecDepth 65536 in
theorem w_c5 : (Jvm.Cond.code ({ cls := "com/example/kalchas/kalchas/IntList", name := "add", desc := "(I)V" } : Jvm.MethodName) prog_14_method_2_code (2 : Nat) (Option.none : Option Jvm.ClassFile.FieldType)).before args0 about1 = true := code_word (m := ⟨2, 1⟩) (meth := k2m1) (c := k2c1) (by decide +kernel) rfl rfl rfl (by decide +kernel)
set_option maxRecDepth 65536 in
theorem w_c6 : (Jvm.Cond.code ({ cls := "com/example/kalchas/kalchas/IntList", name := "size", desc := "()I" } : Jvm.MethodName) prog_14_method_6_code (1 : Nat) (Option.some Jvm.ClassFile.FieldType.int)).before args0 about1 = true := code_word (m := ⟨2, 5⟩) (meth := k2m5) (c := k2c5) (by decide +kernel) rfl rfl rfl (by decide +kernel)
set_option maxRecDepth 65536 in
theorem w_c7 : (Jvm.Cond.code ({ cls := "com/example/kalchas/kalchas/IntList", name := "get", desc := "(I)I" } : Jvm.MethodName) prog_14_method_5_code (2 : Nat) (Option.some Jvm.ClassFile.FieldType.int)).before args0 about1 = true := code_word (m := ⟨2, 4⟩) (meth := k2m4) (c := k2c4) (by decide +kernel) rfl rfl rfl (by decide +kernel)
set_option maxRecDepth 65536 in
theorem w_c8 : (Jvm.Cond.code ({ cls := "java/util/Arrays", name := "copyOf", desc := "([II)[I" } : Jvm.MethodName) jdk_65_method_123_code (3 : Nat) (Option.some (Jvm.ClassFile.FieldType.array Jvm.ClassFile.FieldType.int))).before args0 about1 = true := code_word (m := ⟨3, 1⟩) (meth := k3m1) (c := k3c1) (by decide +kernel) rfl rfl rfl (by decide +kernel)
set_option maxRecDepth 65536 in
theorem w_c9 : (Jvm.Cond.code ({ cls := "java/lang/Math", name := "min", desc := "(II)I" } : Jvm.MethodName) jdk_29_method_69_code (2 : Nat) (Option.some Jvm.ClassFile.FieldType.int)).before args0 about1 = true := code_word (m := ⟨4, 1⟩) (meth := k4m1) (c := k4c1) (by decide +kernel) rfl rfl rfl (by decide +kernel)
def codes1 : List Jvm.Cond := [Jvm.Cond.code x code maxLocals ret, Jvm.Cond.code ({ cls := "com/example/kalchas/kalchas/IntList", name := "<init>", desc := "()V" } : Jvm.MethodName) prog_14_method_1_code (1 : Nat) (Option.none : Option Jvm.ClassFile.FieldType), Jvm.Cond.code ({ cls := "java/lang/Object", name := "<init>", desc := "()V" } : Jvm.MethodName) object_method_1_code (1 : Nat) (Option.none : Option Jvm.ClassFile.FieldType), Jvm.Cond.code ({ cls := "com/example/kalchas/kalchas/IntList", name := "truncate", desc := "(I)V" } : Jvm.MethodName) prog_14_method_4_code (2 : Nat) (Option.none : Option Jvm.ClassFile.FieldType), Jvm.Cond.code ({ cls := "com/example/kalchas/kalchas/IntList", name := "set", desc := "(II)V" } : Jvm.MethodName) prog_14_method_3_code (3 : Nat) (Option.none : Option Jvm.ClassFile.FieldType), Jvm.Cond.code ({ cls := "com/example/kalchas/kalchas/IntList", name := "add", desc := "(I)V" } : Jvm.MethodName) prog_14_method_2_code (2 : Nat) (Option.none : Option Jvm.ClassFile.FieldType), Jvm.Cond.code ({ cls := "com/example/kalchas/kalchas/IntList", name := "size", desc := "()I" } : Jvm.MethodName) prog_14_method_6_code (1 : Nat) (Option.some Jvm.ClassFile.FieldType.int), Jvm.Cond.code ({ cls := "com/example/kalchas/kalchas/IntList", name := "get", desc := "(I)I" } : Jvm.MethodName) prog_14_method_5_code (2 : Nat) (Option.some Jvm.ClassFile.FieldType.int), Jvm.Cond.code ({ cls := "java/util/Arrays", name := "copyOf", desc := "([II)[I" } : Jvm.MethodName) jdk_65_method_123_code (3 : Nat) (Option.some (Jvm.ClassFile.FieldType.array Jvm.ClassFile.FieldType.int)), Jvm.Cond.code ({ cls := "java/lang/Math", name := "min", desc := "(II)I" } : Jvm.MethodName) jdk_29_method_69_code (2 : Nat) (Option.some Jvm.ClassFile.FieldType.int)]
set_option maxRecDepth 65536 in
theorem codes_eq : words1.filter isCode = codes1 := rfl
theorem w_codes : ∀ c ∈ words1.filter isCode, c.before args0 about1 = true := by
  rw [codes_eq]
  intro c hc
  simp only [codes1, List.mem_cons, List.not_mem_nil, or_false] at hc
  rcases hc with rfl | rfl | rfl | rfl | rfl | rfl | rfl | rfl | rfl | rfl
  · exact w_c0
  · exact w_c1
  · exact w_c2
  · exact w_c3
  · exact w_c4
  · exact w_c5
  · exact w_c6
  · exact w_c7
  · exact w_c8
  · exact w_c9
set_option maxRecDepth 65536 in
theorem w_t1 : (words1.take 24).all (fun c => isCode c || c.before args0 about1) = true := by decide +kernel
set_option maxRecDepth 65536 in
theorem w_t2 : ((words1.drop 24).take 24).all (fun c => isCode c || c.before args0 about1) = true := by decide +kernel
set_option maxRecDepth 65536 in
theorem w_t3 : ((words1.drop 24).drop 24).all (fun c => isCode c || c.before args0 about1) = true := by decide +kernel
theorem w_tables : (allAtoms (Jvm.Cond.code x code maxLocals ret :: tables_1)).before args0 about1 = true := by
  rw [allAtoms_all]
  show words1.all (fun c => c.before args0 about1) = true
  refine all_split ?_ w_codes
  rw [← List.take_append_drop 24 words1, List.all_append, w_t1, ← List.take_append_drop 24 (words1.drop 24), List.all_append, w_t2, w_t3]
  rfl
set_option maxRecDepth 65536 in
theorem w_case : (Jvm.Cond.and given_1 narrow_1).before args0 about1 = true := by decide +kernel
theorem w_applies : (headSpec (Jvm.Cond.code x code maxLocals ret :: tables_1) room_1).applies x e0.platform about1 = true :=
  (Spec.applies_iff w_frames).mpr ⟨w_running, w_runnable, w_alone, w_named, w_hears, w_ripe, w_room, w_tables⟩
theorem atStart : AtStart classFile x code maxLocals ret World_1 tables_1 room_1 Calls_1 rest_1 Pre_1 launch0 p0 e0 about1 theMethod args0 below0 :=
  ⟨lists_1, trivial, launch0.admits_env _ _ _, launch0.least_env, fairChoices_fair.cas, fairChoices_fair.clock, w_frames, w_args, w_heap, w_applies, trivial, trivial, w_case⟩
end start1
theorem witness_1 : WitnessClaimed_1 := ⟨start1.p0, start1.e0, start1.about1, start1.theMethod, start1.args0, start1.below0, start1.atStart⟩
end Jvm.Pilot.@@N@@
